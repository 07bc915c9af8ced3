import PyProof.Rows.All
import Wide.All
import OpenK.AllK
import Wide.FinOn
import PySem.Challenge.RW_wb0060_01
set_option Elab.async false
set_option maxRecDepth 100000

/-! part G1 -/
section
open PySem PySem.W PyProof.Rows PySem.Calls
namespace Mine

/-- what a sleeping road may count on: everything but one address stands -/
noncomputable abbrev KeepsBut (L : Addr) (h h' : Heap) : Prop := ∀ b o, b ≠ L → h.get? b = some o → h'.get? b = some o

section
variable {M : Model} {A : Around} {R : GenEnd} {Y : Protocol} {n : Nat} {s₀ : Shared} {c : Code} {fs : List Frame} {s : Shared} {env : Env}
  {K : Flow → Sem Fin} {H : Value → Sem Fin} {gd : Bool → Bool} {lv : List Value → List Value}

/-- a statement that does not yield -/
theorem seg_exec_plain {st : Stmt}
    (h : wpAny M (A.over c fs) (exec st env) (fun f s' => Seg M A R Y n s₀ c (K f) fs s') (fun _ _ => False) s) :
    Seg M A R Y n s₀ c ((exec st env).wrap K H gd lv) fs s :=
  seg_wrap (wpAny_mono h (fun _ _ x => x) fun _ _ x => x.elim)

theorem seg_exec_If {test : Expr} {body orelse : List Stmt} {pos : Pos}
    (h : wpAny M (A.over c fs) (isTrue test env (eval test env)) (fun b s' =>
      Seg M A R Y n s₀ c ((execs (if b = true then body else orelse) env).wrap K H gd lv) fs s') (fun _ _ => False) s) :
    Seg M A R Y n s₀ c ((exec (.If test body orelse pos) env).wrap K H gd lv) fs s := by
  show Seg M A R Y n s₀ c (.at pos fun _ => (isTrue test env (eval test env) >>= fun b => if b = true then execs body env else execs orelse env).wrap K H gd lv) fs s
  refine seg_at (seg_bind_wrap (wpAny_mono h (fun b s' hb => ?_) fun _ _ x => x.elim))
  cases b <;> exact hb

/-- the frame that a loop's own activation leaves on the road's stack -/
noncomputable abbrev ownRet (K : Flow → Sem Fin) (H : Value → Sem Fin) (gd : Bool → Bool) (lv : List Value → List Value) (env : Env) (c : Code) (p : Pos) : Frame :=
  .ret (fun r => ((match r with | .ok f => (.pure f : Sem Flow) | .error e => .raise e).onRaise fun (x : Value) => do
        if (← field x 1) == Value.none then unsupported "frame.own-activation:exception-without-traceback"
        setFlight x env.frame).wrap K H gd lv) none (gd false) (lv []) c p []

theorem seg_exec_For {target iter : Expr} {body orelse : List Stmt} {pos : Pos}
    (h : wpAny M (A.over c fs) (eval iter env) (fun x s₁ => wpAny M (A.over c fs) (pyIter x) (fun it s₂ => ∀ p,
      Seg M A R Y n s₀ (.forLoop target it body orelse env) (M.den (.forLoop target it body orelse env)) (ownRet K H gd lv env c p :: fs) s₂) (fun _ _ => False) s₁) (fun _ _ => False) s)
    (hs : ∀ x, foldedSetIterable iter env x = pure x := by intros; rfl) :
    Seg M A R Y n s₀ c ((exec (.For target iter body orelse pos) env).wrap K H gd lv) fs s := by
  rw [arm_exec_For]
  refine seg_bind_wrap (wpAny_standAt (seg_bind_wrap (wpAny_mono h (fun x s₁ h₁ => ?_) fun _ _ x => x.elim)))
  refine seg_bind_wrap (wpAny_of_eq (hs x) (seg_bind_wrap (wpAny_standAt (seg_bind_wrap (wpAny_holding (wpAny_mono h₁ (fun it s₂ h₂ => ?_) fun _ _ x => x.elim))))))
  exact seg_call h₂
end

section
variable {prog : Program} {w : World} {A : Around} {R : GenEnd} {Y : Protocol} {n : Nat} {s₀ : Shared} {fs : List Frame} {s : Shared} {env : Env}

noncomputable abbrev turnK (c : Code) : Flow → Sem Fin
  | .next | .cont => .pure (.again c)
  | .brk => .pure (.done .next)
  | .ret v => .pure (.done (.ret v))
noncomputable abbrev turnH (env : Env) (e : Value) : Sem Fin := (do noteFrame e env; theTreesLotGoes e : Sem Unit).wrap (fun _ => .raise e) .raise id id

theorem seg_forLoop {x : Str} {px : Pos} {it : Value} {body orelse : List Stmt}
    (h : wpAny (model prog w) (A.over (.forLoop (.Name x px) it body orelse env) fs) (pyNext it) (fun r s₁ => match r with
      | none => False
      | some v => wpAny (model prog w) (A.over (.forLoop (.Name x px) it body orelse env) fs) (storeName env x v) (fun _ s₂ =>
          Seg (model prog w) A R Y n s₀ (.forLoop (.Name x px) it body orelse env) ((execs body env).wrap (turnK (.forLoop (.Name x px) it body orelse env)) (turnH env) id id) fs s₂) (fun _ _ => False) s₁) (fun _ _ => False) s) :
    Seg (model prog w) A R Y n s₀ (.forLoop (.Name x px) it body orelse env) ((model prog w).den (.forLoop (.Name x px) it body orelse env)) fs s := by
  show Seg _ A R Y n s₀ _ ((forTurn (.Name x px) it body orelse env).onRaise (fun x => do noteFrame x env; theTreesLotGoes x)) fs s
  unfold forTurn
  rw [Sem.onRaise_eq_wrap]
  refine seg_bind_wrap (wpAny_standAt (seg_bind_wrap (wpAny_onRaise (wpAny_mono h (fun r s₁ h₁ => ?_) fun _ _ x => x.elim))))
  cases r with
  | none => exact h₁.elim
  | some v =>
    refine seg_bind_wrap (wpAny_of_eq (rfl : letOwnedTupleGo (.Name x px) it v = pure ()) ?_)
    refine seg_bind_wrap (wpAny_assign_Name (wpAny_mono h₁ (fun _ s₂ h₂ => ?_) fun _ _ x => x.elim))
    show Seg _ A R Y n s₀ _ (Sem.wrap _ _ _ _ (execs body env >>= _)) fs s₂
    rw [Sem.bind_eq_wrap', Sem.wrap_wrap]
    rw [Sem.wrap_congr (execs body env) _ _ (K' := turnK (.forLoop (.Name x px) it body orelse env)) (H' := turnH env)
      (fun f => by cases f <;> rfl)
      (fun e => by first | exact Sem.bind_eq_wrap _ _ | (show (do noteFrame e env; theTreesLotGoes e : Sem Unit).bind (fun _ => .raise e) = _; rw [Sem.bind_eq_wrap]))]
    exact h₂
end
end Mine
end

/-! part H1 -/
section
open PySem PySem.W PyProof.Rows PySem.Calls
namespace Mine

section
variable {tb : String → Option Builtin} {p : Program} {w : World} {n₀ : Nat} {ann : Option Value} {b : Nat}
theorem segGo_add : ∀ {k : Nat} {s s1 : Shared} {t t1 : Thread} {j : Nat} {r : Option (Shared × Thread)}, segGo tb p w n₀ ann b k s t = some (s1, t1) → segGo tb p w n₀ ann b j s1 t1 = r →
    segGo tb p w n₀ ann b (k + j) s t = r
  | 0, s, s1, t, t1, j, r, h, e => by
    obtain ⟨rfl, rfl⟩ : s = s1 ∧ t = t1 := by simpa [segGo] using h
    rw [Nat.zero_add]; exact e
  | k + 1, s, s1, t, t1, j, r, h, e => by
    rw [show k + 1 + j = k + j + 1 by omega]
    unfold segGo at h ⊢
    cases he : endAt b t with
    | some f => rw [he] at h; cases h
    | none =>
      rw [he] at h
      cases hk : stepOk n₀ ann t with
      | false => rw [hk] at h; cases h
      | true =>
        rw [hk] at h
        cases hs : step (denote tb) p w s t with
        | halt o s₂ => rw [hs] at h; cases h
        | go s₂ t₂ => rw [hs] at h; exact segGo_add h e
end

/-- where the top's text runs: the program, the world, the fence, the block's code, the frame below it -/
structure Site where
  p : Program
  w : World
  n₀ : Nat
  ann : Option Value
  c : Code
  q0 : Pos

/-- the tree m, run k steps from s at q, comes to a in s' at q' -/
noncomputable def Go (T : Site) {α : Type} (k : Nat) (m : Sem α) (s : Shared) (q : Pos) (a : α) (s' : Shared) (q' : Pos) : Prop :=
  ∀ (K : α → Sem Fin) (H : Value → Sem Fin) (gd : Bool → Bool) (lv : List Value → List Value),
    segGo treeTable T.p T.w T.n₀ T.ann 1 k s ⟨m.wrap K H gd lv, T.c, q, [topFrame T.q0]⟩ = some (s', ⟨K a, T.c, q', [topFrame T.q0]⟩)

section
variable {T : Site} {α β : Type} {s s1 s' : Shared} {q q1 q' : Pos} {a : α}
theorem Go.pure : Go T 0 (Pure.pure a : Sem α) s q a s q := fun _ _ _ _ => rfl
theorem Go.bind {m : Sem α} {f : α → Sem β} {k j : Nat} {b : β} (h : Go T k m s q a s1 q1) (h' : Go T j (f a) s1 q1 b s' q') : Go T (k + j) (m >>= f) s q b s' q' := by
  intro K H gd lv
  rw [Sem.bind_eq_wrap', Sem.wrap_wrap]
  exact segGo_add (h _ _ _ _) (h' K H gd lv)
theorem Go.keep {m : Sem α} {vs : List Value} {k : Nat} (h : Go T k m s q a s' q') : Go T k (m.keep vs) s q a s' q' := by
  intro K H gd lv
  rw [Sem.keep_eq_wrap, Sem.wrap_wrap]
  exact h _ _ _ _
theorem Go.holding {m : Sem α} {vs : List Value} {k : Nat} (h : Go T k m s q a s' q') : Go T k (holding vs m) s q a s' q' := by
  unfold PySem.holding
  split
  · exact h
  · exact h.keep
theorem Go.onRaise {m : Sem α} {f : Value → Sem Unit} {k : Nat} (h : Go T k m s q a s' q') : Go T k (m.onRaise f) s q a s' q' := by
  intro K H gd lv
  rw [Sem.onRaise_eq_wrap, Sem.wrap_wrap]
  exact h _ _ _ _
theorem Go.tryCatch {m : Sem α} {f : Value → Sem α} {k : Nat} (h : Go T k m s q a s' q') : Go T k (MonadExcept.tryCatch m f) s q a s' q' := by
  intro K H gd lv
  show segGo _ _ _ _ _ _ _ _ ⟨(Sem.tryCatch m f).wrap K H gd lv, _, _, _⟩ = _
  rw [Sem.tryCatch_eq_wrap, Sem.wrap_wrap]
  exact h _ _ _ _
theorem Go.of_eq {m m' : Sem α} {k : Nat} (e : m = m') (h : Go T k m' s q a s' q') : Go T k m s q a s' q' := e ▸ h

theorem Go.rule {tag : String} : Go T 1 (PySem.rule tag) s q () s q := fun _ _ _ _ => rfl
theorem Go.standAt {q' : Pos} : Go T 1 (PySem.standAt q') s q () s q' := fun _ _ _ _ => rfl
theorem Go.point : Go T 1 PySem.point s q () s q := fun _ _ _ _ => rfl
theorem Go.fresh : Go T 1 PySem.fresh s q s.toks { s with toks := s.toks + 1 } q := fun _ _ _ _ => rfl
theorem Go.ask : Go T 1 PySem.ask s q ⟨T.p, T.w.params⟩ s q := fun _ _ _ _ => rfl
theorem Go.alloc {o : Obj} : Go T 1 (PySem.alloc o) s q s.heap.objs.size { s with heap := s.heap.push o } q := fun _ _ _ _ => rfl
theorem Go.loadPart {x : Addr} {part : Option Value} {o : Obj} (ho : s.heap.get? x = some o) : Go T 1 (PySem.loadPart x part) s q o s q := by
  intro K H gd lv
  show (match (match s.heap.get? x with | some o => _ | none => _ : Step) with | .go s' t' => _ | .halt _ _ => _) = _
  rw [ho]
  rfl
theorem Go.load {x : Addr} {o : Obj} (ho : s.heap.get? x = some o) : Go T 1 (PySem.load x) s q o s q := Go.loadPart (part := none) ho
end
end Mine
end

/-! part H2 -/
section
open PySem PySem.W PyProof.Rows PySem.Calls
namespace Mine
section
variable {T : Site} {α β : Type} {s s1 s' : Shared} {q q1 q' : Pos} {a : α}
theorem Go.updatePart {x : Addr} {part : Option Value} {f : Obj → Obj} {o : Obj} (ho : s.heap.get? x = some o) (hx : T.n₀ ≤ x) :
    Go T 1 (PySem.updatePart x part f) s q () { s with heap := s.heap.update x f } q := by
  intro K H gd lv
  show (match (match (((!false || _) && !false && true) && (Nat.ble T.n₀ x || x == mainNs || x == cStatics || T.ann == some (.ref x)) : Bool) with
    | false => none
    | true => match (if (s.heap.get? x).isSome then _ else _ : Step) with | .go s' t' => _ | .halt _ _ => _) with | r => r) = _
  rw [ho, Nat.ble_eq_true_of_le hx]
  rfl

noncomputable abbrev dOb (es : List DictEntry) (n : Nat) : Obj := ⟨.type "dict", none, .dict es.toArray n, #[]⟩

theorem Go.dictEntries {d : Addr} {part : Option Value} {es : List DictEntry} {n : Nat} (ho : s.heap.get? d = some (dOb es n)) : Go T 1 (PySem.dictEntries d part) s q es.toArray s q :=
  Go.bind (k := 1) (j := 0) (Go.loadPart ho) Go.pure
theorem Go.dictEpoch {d : Addr} {part : Option Value} {es : List DictEntry} {n : Nat} (ho : s.heap.get? d = some (dOb es n)) : Go T 1 (PySem.dictEpoch d part) s q n s q :=
  Go.bind (k := 1) (j := 0) (Go.loadPart ho) Go.pure

theorem Go.addKey {d : Addr} {part : Option Value} {es : List DictEntry} {n : Nat} {e : DictEntry} (ho : s.heap.get? d = some (dOb es n)) (hd : T.n₀ ≤ d) (hsz : es.length < sizeLine) :
    Go T 3 (PySem.updateDictKeys d (·.push e) part) s q () { s with heap := s.heap.update d (Obj.mapDictKeys (·.push e)) } q := by
  have h2 : (s.heap.update d (Obj.mapDictKeys (·.push e))).get? d = some (dOb (es ++ [e]) (n + 1)) := by
    rw [Heap.get?_update_self (Obj.mapDictKeys (·.push e)) ho rfl]
    simp [Obj.mapDictKeys, dOb]
  refine Go.bind (k := 1) (j := 2) (Go.loadPart ho) (Go.bind (k := 1) (j := 1) (Go.updatePart ho hd) ?_)
  unfold lookBehind
  refine Go.bind (k := 1) (j := 0) (Go.loadPart h2) ?_
  have : (Data.dict (es ++ [e]).toArray (n + 1)).pastItsLine = none := by
    show (if (es ++ [e]).toArray.size > sizeLine + 1 then some "dict:memory" else none) = none
    rw [if_neg (by simp; omega)]
  dsimp only [dOb]
  rw [this]
  exact Go.pure

/-- no entry bears the hash: the find ends with none -/
theorem Go.dictFind_new {d : Addr} {es : List DictEntry} {n : Nat} {k : Int} {t : Tok} {h : Int} (ho : s.heap.get? d = some (dOb es n)) (hn : ∀ e ∈ es, e.hash ≠ h) :
    Go T 1 (PySem.dictFind d (.int k t) h) s q none s q := by
  have hp : placesWithHash es.toArray.size (fun i => es.toArray[i]?.map (·.hash)) h = [] := by
    unfold placesWithHash
    rw [List.filter_eq_nil_iff]
    intro i hi
    simp only [List.mem_range] at hi
    show ¬ ((es.toArray[i]?.map (·.hash)) == some h) = true
    rw [Array.getElem?_eq_getElem hi]
    simp only [Option.map_some, beq_iff_eq, Option.some.injEq]
    exact hn _ (by simp)
  show Go T (1 + 0) (PySem.dictEntries d (keyPart (.int k t)) >>= fun es => _) s q none s q
  refine Go.bind (Go.dictEntries ho) ?_
  dsimp only
  rw [hp]
  exact Go.pure
end
end Mine
end

/-! part H3 -/
section
open PySem PySem.W PyProof.Rows PySem.Calls
namespace Mine
section
variable {T : Site} {α β : Type} {s s1 s' : Shared} {q q1 q' : Pos} {a : α}
theorem special_int_hash {k : Int} {t : Tok} : specialOf (.int k t) "__hash__" = pure (some (.builtin "int.__hash__")) := by kernel_rfl
theorem bind_int_hash {k : Int} {t : Tok} : bindSpecial (.builtin "int.__hash__") (.int k t) = pure (.builtin "int.__hash__", [.int k t]) := by kernel_rfl
theorem Go.call_int_hash {k : Int} {t : Tok} : Go T 4 (PySem.call (.builtin "int.__hash__") [.int k t]) s q (.int (rawHash k) s.toks) { s with toks := s.toks + 1 } q := by
  intro K H gd lv
  kernel_rfl

theorem Go.pyHash_int {k : Int} {t : Tok} : Go T 5 (PySem.pyHash (.int k t)) s q (hashInt k) { s with toks := s.toks + 1 } q := by
  have hr := rawHash_range k
  show Go T 5 (cRoomFor "hash" [.int k t] >>= fun _ => _) s q _ _ q
  refine Go.bind (k := 0) (j := 5) Go.pure ?_
  refine Go.bind (k := 0) (j := 5) (Go.of_eq special_int_hash Go.pure) ?_
  rw [if_neg (by rw [beq_builtin_none]; exact Bool.false_ne_true)]
  refine Go.bind (k := 0) (j := 5) (Go.of_eq special_int_hash Go.pure) ?_
  show Go T 5 (callSpecialIfBoundUnlessNone? (.int k t) "__hash__" _ >>= _) s q _ _ q
  refine Go.bind (k := 5) (j := 0) (a := some (.int (rawHash k) s.toks)) (s1 := { s with toks := s.toks + 1 }) (q1 := q) ?_ ?_
  · show Go T 5 (bindSpecialIfBound? (.int k t) "__hash__" >>= _) s q _ _ q
    refine Go.bind (k := 1) (j := 4) (a := some (.builtin "int.__hash__", [.int k t])) (s1 := s) (q1 := q) ?_ ?_
    · show Go T 1 (specialOf (.int k t) "__hash__" >>= _) s q _ _ q
      refine Go.bind (k := 0) (j := 1) (Go.of_eq special_int_hash Go.pure) ?_
      refine Go.bind (k := 1) (j := 0) Go.ask ?_
      cases T.w.params.followText "special-get-raises" with
      | true => exact Go.of_eq (by show (bindSpecial _ _ >>= _) = _; rw [bind_int_hash]; rfl) Go.pure
      | false => exact Go.tryCatch (Go.of_eq (by show (bindSpecial _ _ >>= _) = _; rw [bind_int_hash]; rfl) Go.pure)
    · show Go T 4 (PySem.call (.builtin "int.__hash__") [.int k t] >>= _) s q _ _ q
      exact Go.bind (k := 4) (j := 0) Go.call_int_hash Go.pure
  · show Go T 0 (if (decide (-(2 : Int) ^ 63 ≤ rawHash k) && decide (rawHash k < 2 ^ 63)) = true then _ else _) _ _ _ _ _
    rw [if_pos (by rw [decide_eq_true hr.1, decide_eq_true hr.2]; rfl)]
    exact Go.pure
end
end Mine
end

/-! part H4 -/
section
open PySem PySem.W PyProof.Rows PySem.Calls
namespace Mine

/-- a heap as a list of objects -/
noncomputable abbrev HL (l : List Obj) (life : Life) : Heap := ⟨l.toArray, life⟩

theorem HL.push (l : List Obj) (life : Life) (o : Obj) : (HL l life).push o = HL (l ++ [o]) life := by
  simp [HL, Heap.push]
theorem HL.size (l : List Obj) (life : Life) : (HL l life).objs.size = l.length := by simp [HL]
theorem HL.get (l r : List Obj) (life : Life) (es : List DictEntry) (n : Nat) : (HL (l ++ dOb es n :: r) life).get? l.length = some (dOb es n) := by
  simp [HL, Heap.get?, dOb]
theorem modify_mid {α : Type} (f : α → α) (o : α) (r : List α) : ∀ l : List α, (l ++ o :: r).modify l.length f = l ++ f o :: r
  | [] => by simp
  | x :: l => by
    show (x :: (l ++ o :: r)).modify (l.length + 1) f = x :: (l ++ f o :: r)
    rw [List.modify_succ_cons, modify_mid f o r l]
theorem HL.update (l r : List Obj) (life : Life) (es : List DictEntry) (n : Nat) (e : DictEntry) :
    (HL (l ++ dOb es n :: r) life).update l.length (Obj.mapDictKeys (·.push e)) = HL (l ++ dOb (es ++ [e]) (n + 1) :: r) life := by
  have : (l ++ dOb es n :: r).toArray.modify l.length (Obj.mapDictKeys (·.push e)) = (l ++ dOb (es ++ [e]) (n + 1) :: r).toArray := by
    apply Array.ext'
    rw [Array.toList_modify]
    show (l ++ dOb es n :: r).modify l.length _ = _
    rw [modify_mid]
    simp [Obj.mapDictKeys, dOb]
  show (⟨_, life⟩ : Heap) = ⟨_, life⟩
  rw [this]

section
variable {T : Site} {α β γ : Type} {s s1 s' : Shared} {q q1 q' : Pos} {a : α}

theorem Go.forIn_nil {f : γ → β → Sem (ForInStep β)} {b : β} : Go T 0 (forIn ([] : List γ) b f) s q b s q := Go.of_eq rfl Go.pure
theorem Go.forIn_cons {f : γ → β → Sem (ForInStep β)} {x : γ} {xs : List γ} {b b1 r : β} {k j : Nat} (h : Go T k (f x b) s q (.yield b1) s1 q1) (h' : Go T j (forIn xs b1 f) s1 q1 r s' q') :
    Go T (k + j) (forIn (x :: xs) b f) s q r s' q' := by
  rw [List.forIn_cons]
  exact Go.bind h h'

/-- the state while the display runs -/
noncomputable abbrev St (g : Array GenState) (d : Drawn) (os : OsState) (life : Life) (l : List Obj) (t : Nat) : Shared := ⟨HL l life, g, d, t, os⟩

variable {g : Array GenState} {dr : Drawn} {os : OsState} {life : Life} {l l0 r : List Obj} {t : Nat}

theorem Go.put {es : List DictEntry} {n : Nat} {e : DictEntry} {part : Option Value} (hl : T.n₀ ≤ l.length) (hsz : es.length < sizeLine) :
    Go T 3 (PySem.updateDictKeys l.length (·.push e) part) (St g dr os life (l ++ dOb es n :: r) t) q () (St g dr os life (l ++ dOb (es ++ [e]) (n + 1) :: r) t) q := by
  have h := Go.addKey (T := T) (q := q) (part := part) (e := e) (s := St g dr os life (l ++ dOb es n :: r) t) (HL.get l r life es n) hl hsz
  rw [show (St g dr os life (l ++ dOb es n :: r) t).heap.update l.length (Obj.mapDictKeys (·.push e)) = HL (l ++ dOb (es ++ [e]) (n + 1) :: r) life from HL.update ..] at h
  exact h

theorem Go.dictSet_new {es : List DictEntry} {n : Nat} {k : Int} {tk : Tok} {v : Value} (hl : T.n₀ ≤ l.length) (hsz : es.length < sizeLine) (hn : ∀ e ∈ es, e.hash ≠ hashInt k) :
    Go T 10 (PySem.dictSet l.length (.int k tk) v) (St g dr os life (l ++ dOb es n :: r) t) q () (St g dr os life (l ++ dOb (es ++ [⟨hashInt k, .int k tk, v⟩]) (n + 1) :: r) (t + 1)) q := by
  unfold PySem.dictSet
  refine Go.holding (Go.bind (k := 5) (j := 5) Go.pyHash_int ?_)
  unfold dictSetHashed
  refine Go.holding (Go.bind (k := 1) (j := 4) (Go.dictFind_new (HL.get l r life es n) hn) ?_)
  dsimp only
  exact Go.bind (k := 1) (j := 3) Go.rule (Go.put hl hsz)

theorem Go.dictPut_new {es : List DictEntry} {n : Nat} {k h : Int} {tk : Tok} {v : Value} (hl : T.n₀ ≤ l.length) (hsz : es.length < sizeLine) (hn : ∀ e ∈ es, e.hash ≠ h) :
    Go T 4 (PySem.dictPut l.length h (.int k tk) v) (St g dr os life (l ++ dOb es n :: r) t) q () (St g dr os life (l ++ dOb (es ++ [⟨h, .int k tk, v⟩]) (n + 1) :: r) t) q := by
  unfold PySem.dictPut
  refine Go.bind (k := 1) (j := 3) (Go.dictFind_new (HL.get l r life es n) hn) ?_
  dsimp only
  exact Go.put hl hsz

noncomputable abbrev Row := Int × Str
/-- a row of the display, as the text's two trees -/
noncomputable abbrev prOf (P : Pos) (it : Row) : Sem Value × Sem Value := (mkInt it.1, do let y ← PySem.mkText it.2; PySem.standAt P; Pure.pure y)
theorem Go.key {k : Int} : Go T 1 (mkInt k) (St g dr os life l t) q (.int k t) (St g dr os life l (t + 1)) q := Go.bind (k := 1) (j := 0) Go.fresh Go.pure
theorem Go.val {x : Str} {P : Pos} : Go T 2 (do let y ← PySem.mkText x; PySem.standAt P; Pure.pure y) (St g dr os life l t) q (.str x t) (St g dr os life l (t + 1)) P :=
  Go.bind (k := 1) (j := 1) (s1 := St g dr os life l (t + 1)) (q1 := q) (Go.bind (k := 1) (j := 0) Go.fresh Go.pure) (Go.bind (k := 1) (j := 0) Go.standAt Go.pure)

noncomputable abbrev hashes (es : List DictEntry) : List Int := es.map (·.hash)
noncomputable abbrev rowHashes (rows : List Row) : List Int := rows.map fun it => hashInt it.1

noncomputable def ent3 (t : Nat) : List Row → List DictEntry
  | [] => []
  | it :: rows => ⟨hashInt it.1, .int it.1 t, .str it.2 (t + 1)⟩ :: ent3 (t + 3) rows
noncomputable def ent2 (t : Nat) : List Row → List DictEntry
  | [] => []
  | it :: rows => ⟨hashInt it.1, .int it.1 t, .str it.2 (t + 1)⟩ :: ent2 (t + 2) rows
theorem ent3_length : ∀ (t : Nat) (rows : List Row), (ent3 t rows).length = rows.length
  | _, [] => rfl
  | t, _ :: rows => by rw [ent3, List.length_cons, ent3_length, List.length_cons]
theorem ent2_length : ∀ (t : Nat) (rows : List Row), (ent2 t rows).length = rows.length
  | _, [] => rfl
  | t, _ :: rows => by rw [ent2, List.length_cons, ent2_length, List.length_cons]
theorem ent3_hashes : ∀ (t : Nat) (rows : List Row), hashes (ent3 t rows) = rowHashes rows
  | _, [] => rfl
  | t, it :: rows => by show hashInt it.1 :: hashes (ent3 (t + 3) rows) = _; rw [ent3_hashes]; rfl
theorem ent2_hashes : ∀ (t : Nat) (rows : List Row), hashes (ent2 t rows) = rowHashes rows
  | _, [] => rfl
  | t, it :: rows => by show hashInt it.1 :: hashes (ent2 (t + 2) rows) = _; rw [ent2_hashes]; rfl

theorem fresh_of {es : List DictEntry} {h : Int} {hs : List Int} (nd : (hashes es ++ h :: hs).Nodup) : ∀ e ∈ es, e.hash ≠ h := by
  intro e he q
  have := (List.nodup_append.mp nd).2.2 e.hash (List.mem_map_of_mem he) h (List.mem_cons_self ..)
  exact this q
theorem snoc_nodup {es : List DictEntry} {e : DictEntry} {hs : List Int} (nd : (hashes es ++ e.hash :: hs).Nodup) : (hashes (es ++ [e]) ++ hs).Nodup := by
  simpa [hashes, List.append_assoc] using nd

theorem Go.longLoop {P : Pos} (hl : T.n₀ ≤ l.length) : ∀ (rows : List Row) (es : List DictEntry) (n t : Nat), es.length + rows.length ≤ sizeLine → (hashes es ++ rowHashes rows).Nodup →
    Go T (13 * rows.length) (forIn (rows.map (prOf P)) PUnit.unit fun x _ => match x with
      | (k, v) => do
        let kv ← k
        let vv ← PySem.holding [kv] v
        PySem.holding [kv, vv] (PySem.dictSet l.length kv vv)
        Pure.pure (ForInStep.yield PUnit.unit)) (St g dr os life (l ++ dOb es n :: r) t) P PUnit.unit (St g dr os life (l ++ dOb (es ++ ent3 t rows) (n + rows.length) :: r) (t + 3 * rows.length)) P
  | [], es, n, t, _, _ => by
    simp only [List.map_nil, ent3, List.append_nil, List.length_nil, Nat.mul_zero, Nat.add_zero]
    exact Go.forIn_nil
  | it :: rows, es, n, t, hsz, nd => by
    rw [List.length_cons] at hsz
    have ih := Go.longLoop (P := P) hl rows (es ++ [⟨hashInt it.1, .int it.1 t, .str it.2 (t + 1)⟩]) (n + 1) (t + 3) (by rw [List.length_append, List.length_singleton]; omega) (snoc_nodup (e := ⟨hashInt it.1, _, _⟩) nd)
    rw [List.append_assoc, List.singleton_append, show n + 1 + rows.length = n + (it :: rows).length by rw [List.length_cons]; omega, show t + 3 + 3 * rows.length = t + 3 * (it :: rows).length by rw [List.length_cons]; omega] at ih
    rw [show 13 * (it :: rows).length = 13 + 13 * rows.length by rw [List.length_cons]; omega]
    refine Go.forIn_cons (k := 13) ?_ ih
    refine Go.bind (k := 1) (j := 12) Go.key (Go.bind (k := 2) (j := 10) (Go.holding Go.val) (Go.bind (k := 10) (j := 0) (Go.holding (Go.dictSet_new hl (by omega) (fresh_of nd))) Go.pure))

theorem Go.evalPairs {P : Pos} : ∀ (rows : List Row) (t : Nat),
    Go T (3 * rows.length) (PySem.evalPairs (rows.map (prOf P))) (St g dr os life l t) P ((ent2 t rows).map fun e => (e.key, e.val)) (St g dr os life l (t + 2 * rows.length)) P
  | [], t => Go.pure
  | it :: rows, t => by
    have ih := Go.evalPairs (P := P) rows (t + 2)
    rw [show t + 2 + 2 * rows.length = t + 2 * (it :: rows).length by rw [List.length_cons]; omega] at ih
    rw [show 3 * (it :: rows).length = 1 + (2 + (3 * rows.length + 0)) by rw [List.length_cons]; omega]
    exact Go.bind Go.key (Go.bind (Go.holding Go.val) (Go.bind (Go.holding ih) Go.pure))

theorem Go.shortLoop (hl : T.n₀ ≤ l.length) : ∀ (rows : List Row) (es : List DictEntry) (n t0 t : Nat), es.length + rows.length ≤ sizeLine → (hashes es ++ rowHashes rows).Nodup →
    Go T (10 * rows.length) (forIn ((ent2 t0 rows).map fun e => (e.key, e.val)) PUnit.unit fun x _ => match x with
      | (k, v) => do
        PySem.dictSet l.length k v
        Pure.pure (ForInStep.yield PUnit.unit)) (St g dr os life (l ++ dOb es n :: r) t) q PUnit.unit (St g dr os life (l ++ dOb (es ++ ent2 t0 rows) (n + rows.length) :: r) (t + rows.length)) q
  | [], es, n, t0, t, _, _ => by
    simp only [ent2, List.map_nil, List.append_nil, List.length_nil, Nat.mul_zero, Nat.add_zero]
    exact Go.forIn_nil
  | it :: rows, es, n, t0, t, hsz, nd => by
    rw [List.length_cons] at hsz
    have ih := Go.shortLoop hl rows (es ++ [⟨hashInt it.1, .int it.1 t0, .str it.2 (t0 + 1)⟩]) (n + 1) (t0 + 2) (t + 1) (by rw [List.length_append, List.length_singleton]; omega) (snoc_nodup (e := ⟨hashInt it.1, _, _⟩) nd)
    rw [List.append_assoc, List.singleton_append, show n + 1 + rows.length = n + (it :: rows).length by rw [List.length_cons]; omega, show t + 1 + rows.length = t + (it :: rows).length by rw [List.length_cons]; omega] at ih
    rw [show 10 * (it :: rows).length = 10 + 10 * rows.length by rw [List.length_cons]; omega]
    refine Go.forIn_cons (k := 10) ?_ ih
    exact Go.bind (k := 10) (j := 0) (Go.dictSet_new hl (by omega) (fresh_of nd)) Go.pure
end
end Mine
end

/-! part H5 -/
section
open PySem PySem.W PyProof.Rows PySem.Calls
namespace Mine
section
variable {T : Site} {α β γ : Type} {s s1 s' : Shared} {q q1 q' P : Pos} {a : α} {g : Array GenState} {dr : Drawn} {os : OsState} {life : Life} {l l0 r : List Obj} {t : Nat}

theorem Go.bind0 {m : Sem α} {f : α → Sem β} {j : Nat} {b : β} (h : Go T 0 m s q a s1 q1) (h' : Go T j (f a) s1 q1 b s' q') : Go T j (m >>= f) s q b s' q' := by
  have := Go.bind h h'
  rwa [Nat.zero_add] at this

theorem Go.subLong (hl : T.n₀ ≤ l.length) (rows : List Row) (h15 : ¬ rows.length ≤ 15) (hsz : rows.length ≤ sizeLine) (nd : (rowHashes rows).Nodup) :
    Go T (1 + (1 + (13 * rows.length))) (PySem.subDict (rows.map (prOf P))) (St g dr os life l t) P l.length (St g dr os life (l ++ [dOb (ent3 t rows) rows.length]) (t + 3 * rows.length)) P := by
  unfold PySem.subDict
  refine Go.bind (s1 := St g dr os life (l ++ [dOb [] 0]) t) (q1 := P) (a := l.length) ?_ ?_
  · have := Go.alloc (T := T) (q := P) (o := dOb [] 0) (s := St g dr os life l t)
    rw [show (St g dr os life l t).heap.push (dOb [] 0) = HL (l ++ [dOb [] 0]) life from HL.push ..] at this
    exact this
  · refine Go.bind (k := 1 + 13 * rows.length) (j := 0) (s1 := St g dr os life (l ++ [dOb (ent3 t rows) rows.length]) (t + 3 * rows.length)) (q1 := P) (a := ()) (Go.holding ?_) Go.pure
    rw [if_neg (by rw [List.length_map]; exact h15)]
    have := Go.longLoop (T := T) (P := P) (g := g) (dr := dr) (os := os) (life := life) (r := []) hl rows [] 0 t (by simpa using hsz) (by simpa using nd)
    rw [List.nil_append, Nat.zero_add] at this
    exact Go.bind (k := 1) (j := 13 * rows.length) Go.rule (Go.bind (k := 13 * rows.length) (j := 0) this Go.pure)

theorem Go.subShort (hl : T.n₀ ≤ l.length) (rows : List Row) (h15 : rows.length ≤ 15) (nd : (rowHashes rows).Nodup) :
    Go T (1 + (3 * rows.length + (10 * rows.length))) (PySem.subDict (rows.map (prOf P))) (St g dr os life l t) P l.length (St g dr os life (l ++ [dOb (ent2 t rows) rows.length]) (t + 2 * rows.length + rows.length)) P := by
  unfold PySem.subDict
  refine Go.bind (s1 := St g dr os life (l ++ [dOb [] 0]) t) (q1 := P) (a := l.length) ?_ ?_
  · have := Go.alloc (T := T) (q := P) (o := dOb [] 0) (s := St g dr os life l t)
    rw [show (St g dr os life l t).heap.push (dOb [] 0) = HL (l ++ [dOb [] 0]) life from HL.push ..] at this
    exact this
  · refine Go.bind (k := 3 * rows.length + 10 * rows.length) (j := 0) (s1 := St g dr os life (l ++ [dOb (ent2 t rows) rows.length]) (t + 2 * rows.length + rows.length)) (q1 := P) (a := ()) (Go.holding ?_) Go.pure
    rw [if_pos (by rw [List.length_map]; exact h15)]
    have := Go.shortLoop (T := T) (q := P) (g := g) (dr := dr) (os := os) (life := life) (r := []) hl rows [] 0 t (t + 2 * rows.length) (by
      have : (15 : Nat) ≤ sizeLine := by decide
      simp only [List.length_nil]; omega) (by simpa using nd)
    rw [List.nil_append, Nat.zero_add] at this
    exact Go.bind (k := 3 * rows.length) (j := 10 * rows.length) (Go.evalPairs rows t) (Go.holding (Go.bind (k := 10 * rows.length) (j := 0) this Go.pure))

theorem sub_dict_dict : isSubtype (.type "dict") (.type "dict") = pure true := by kernel_rfl
theorem look_dict_iter : typeLookup (.type "dict") "__iter__" = pure (some (.builtin "dict.__iter__")) := by kernel_rfl

theorem Go.mergeLoop {x : Addr} (hl : T.n₀ ≤ l0.length) (E : List DictEntry) (m : Nat) (hx : ∀ M n, (HL (l0 ++ dOb M n :: r) life).get? x = some (dOb E m)) (hk : ∀ e ∈ E, ∃ k tk, e.key = .int k tk) :
    ∀ (E2 E1 M : List DictEntry) (n : Nat), E = E1 ++ E2 → M.length + E2.length ≤ sizeLine → (hashes M ++ hashes E2).Nodup →
    Go T (6 * E2.length) (forIn (List.range' E1.length E2.length) PUnit.unit fun i _ => do
        let es ← PySem.dictEntries x
        match es[i]? with
          | some e => do
            PySem.holding [e.key, e.val] (PySem.dictPut l0.length e.hash e.key e.val)
            let ep ← PySem.dictEpoch x
            if (ep != m) = true then do
                unsupported "dict.changed-during-merge"
                Pure.pure (ForInStep.yield PUnit.unit)
              else Pure.pure (ForInStep.yield PUnit.unit)
          | _ => do
            unsupported "dict.changed-during-merge"
            Pure.pure (ForInStep.yield PUnit.unit)) (St g dr os life (l0 ++ dOb M n :: r) t) q PUnit.unit (St g dr os life (l0 ++ dOb (M ++ E2) (n + E2.length) :: r) t) q
  | [], E1, M, n, _, _, _ => by
    simp only [List.append_nil, List.length_nil, Nat.mul_zero, Nat.add_zero]
    exact Go.forIn_nil
  | e :: E2, E1, M, n, hE, hsz, nd => by
    rw [List.length_cons] at hsz
    have ih := Go.mergeLoop hl E m hx hk E2 (E1 ++ [e]) (M ++ [e]) (n + 1) (by rw [hE]; simp) (by rw [List.length_append, List.length_singleton]; omega) (snoc_nodup nd)
    rw [List.append_assoc, List.singleton_append, show n + 1 + E2.length = n + (e :: E2).length by rw [List.length_cons]; omega, List.length_append, List.length_singleton] at ih
    rw [show 6 * (e :: E2).length = 6 + 6 * E2.length by rw [List.length_cons]; omega, List.length_cons, List.range'_succ]
    refine Go.forIn_cons (k := 6) ?_ ih
    refine Go.bind (k := 1) (j := 5) (Go.dictEntries (hx M n)) ?_
    have he : (E.toArray)[E1.length]? = some e := by rw [hE]; simp
    rw [he]
    obtain ⟨k, tk, hke⟩ := hk e (by rw [hE]; simp)
    dsimp only
    have put : Go T 4 (PySem.dictPut l0.length e.hash e.key e.val) (St g dr os life (l0 ++ dOb M n :: r) t) q () (St g dr os life (l0 ++ dOb (M ++ [e]) (n + 1) :: r) t) q := by
      have := Go.dictPut_new (T := T) (q := q) (g := g) (dr := dr) (os := os) (life := life) (r := r) (t := t) (n := n) (k := k) (h := e.hash) (tk := tk) (v := e.val) (l := l0) hl (by omega) (fresh_of nd)
      rw [← hke] at this
      exact this
    refine Go.bind (k := 4) (j := 1) (Go.holding put) (Go.bind (k := 1) (j := 0) (Go.dictEpoch (hx (M ++ [e]) (n + 1))) ?_)
    rw [if_neg (by simp)]
    exact Go.pure

theorem Go.merge {x : Addr} (hl : T.n₀ ≤ l0.length) (E M : List DictEntry) (m n : Nat) (hx : ∀ M n, (HL (l0 ++ dOb M n :: r) life).get? x = some (dOb E m)) (hxs : x ≠ sysModules) (hk : ∀ e ∈ E, ∃ k tk, e.key = .int k tk)
    (hM : M ≠ []) (hsz : M.length + E.length ≤ sizeLine) (nd : (hashes M ++ hashes E).Nodup) :
    Go T (1 + (1 + (1 + (1 + (1 + (6 * E.length)))))) (PySem.mergeMapping l0.length (.ref x) false) (St g dr os life (l0 ++ dOb M n :: r) t) q () (St g dr os life (l0 ++ dOb (M ++ E) (n + E.length) :: r) t) q := by
  unfold PySem.mergeMapping
  have ty : Go T 1 (PySem.typeOf (.ref x)) (St g dr os life (l0 ++ dOb M n :: r) t) q (.type "dict") (St g dr os life (l0 ++ dOb M n :: r) t) q :=
    Go.bind (k := 1) (j := 0) (Go.loadPart (hx M n)) Go.pure
  refine Go.bind (k := 1) (s1 := St g dr os life (l0 ++ dOb M n :: r) t) (q1 := q) (a := true) (Go.bind (k := 1) (j := 0) ty (Go.of_eq sub_dict_dict Go.pure)) ?_
  rw [if_pos rfl]
  refine Go.bind (k := 1) (s1 := St g dr os life (l0 ++ dOb M n :: r) t) (q1 := q) (a := some (.builtin "dict.__iter__")) (Go.bind (k := 1) (j := 0) ty (Go.of_eq look_dict_iter Go.pure)) ?_
  refine Go.bind0 (a := true) (Go.of_eq (by rfl) Go.pure) ?_
  dsimp only
  rw [if_neg (by simpa using hxs)]
  refine Go.bind (k := 1) (Go.dictEntries (HL.get l0 r life M n)) ?_
  rw [if_neg (by simpa using hM)]
  refine Go.bind (k := 1) (Go.dictEntries (hx M n)) ?_
  refine Go.bind (k := 1) (Go.dictEpoch (hx M n)) ?_
  have := Go.mergeLoop (T := T) (q := q) (g := g) (dr := dr) (os := os) (t := t) hl E m hx hk E [] M n rfl hsz nd
  rw [List.length_nil] at this
  rw [show E.toArray.size = E.length from rfl, List.range_eq_range']
  refine Go.bind (k := 6 * E.length) (j := 0) (a := PUnit.unit) ?_ Go.pure
  refine Go.of_eq ?_ this
  rfl
end
end Mine
end

/-! part H6 -/
section
open PySem PySem.W PyProof.Rows PySem.Calls
namespace Mine
noncomputable abbrev Pair := Sem Value × Sem Value
noncomputable abbrev itemOf (P : Pos) (it : Row) : Option (Sem Value) × Sem Value := (some (prOf P it).1, (prOf P it).2)
section
variable {T : Site} {α β γ : Type} {s s1 s' : Shared} {q q1 q' P : Pos} {a : α} {g : Array GenState} {dr : Drawn} {os : OsState} {life : Life} {l l0 r : List Obj} {t : Nat}
  {f : Option (Sem Value) × Sem Value → Option Addr × List Pair → Sem (ForInStep (Option Addr × List Pair))} {fl : List Pair → Option Addr → Sem (Option Addr)}

theorem Go.chunk (h1 : ∀ x v main run, (run ++ [(x, v)]).length ≠ 17 → f (some x, v) (main, run) = Pure.pure (.yield (main, run ++ [(x, v)])))
    (h2 : ∀ x v main run, (run ++ [(x, v)]).length = 17 → f (some x, v) (main, run) = (fl (run ++ [(x, v)]) main >>= fun m => Pure.pure (.yield (m, []))))
    {main m : Option Addr} {rest : List Row} {k j : Nat} {res : Option Addr × List Pair} :
    ∀ (c : List Row) (run : List Pair), run.length + c.length = 17 → c ≠ [] → Go T k (fl (run ++ c.map (prOf P)) main) s q m s1 q1 → Go T j (forIn (rest.map (itemOf P)) (m, ([] : List Pair)) f) s1 q1 res s' q' →
      Go T (k + j) (forIn ((c ++ rest).map (itemOf P)) (main, run) f) s q res s' q'
  | [], _, _, h, _, _ => absurd rfl h
  | [it], run, hl, _, hf, hr => by
    refine Go.forIn_cons (k := k) (b1 := (m, [])) ?_ hr
    rw [show itemOf P it = (some (prOf P it).1, (prOf P it).2) from rfl, h2 _ _ _ _ (by rw [List.length_append]; exact hl)]
    exact Go.bind (k := k) (j := 0) hf Go.pure
  | it :: it2 :: c, run, hl, _, hf, hr => by
    have ih := Go.chunk h1 h2 (main := main) (it2 :: c) (run ++ [prOf P it]) (by simp only [List.length_append, List.length_cons, List.length_nil] at hl ⊢; omega) (by simp)
      (by rw [List.append_assoc]; exact hf) hr
    have := Go.forIn_cons (T := T) (k := 0) (x := itemOf P it) (b := (main, run)) (b1 := (main, run ++ [prOf P it])) (f := f) (s := s) (q := q) (s1 := s) (q1 := q) (by
      rw [show itemOf P it = (some (prOf P it).1, (prOf P it).2) from rfl, h1 _ _ _ _ (by simp only [List.length_append, List.length_cons, List.length_nil] at hl ⊢; omega)]
      exact Go.pure) ih
    rwa [Nat.zero_add] at this

theorem Go.tail (h1 : ∀ x v main run, (run ++ [(x, v)]).length ≠ 17 → f (some x, v) (main, run) = Pure.pure (.yield (main, run ++ [(x, v)])))
    {main : Option Addr} : ∀ (c : List Row) (run : List Pair), run.length + c.length < 17 → Go T 0 (forIn (c.map (itemOf P)) (main, run) f) s q (main, run ++ c.map (prOf P)) s q
  | [], run, _ => by
    rw [List.map_nil, List.map_nil, List.append_nil]
    exact Go.forIn_nil (f := f)
  | it :: c, run, hl => by
    have ih := Go.tail h1 (main := main) c (run ++ [prOf P it]) (by simp only [List.length_append, List.length_cons, List.length_nil] at hl ⊢; omega)
    rw [List.append_assoc] at ih
    exact Go.forIn_cons (k := 0) (j := 0) (b1 := (main, run ++ [prOf P it])) (by
      rw [show itemOf P it = (some (prOf P it).1, (prOf P it).2) from rfl, h1 _ _ _ _ (by simp only [List.length_append, List.length_cons, List.length_nil] at hl ⊢; omega)]
      exact Go.pure) ih

theorem ent3_key : ∀ (t : Nat) (rows : List Row), ∀ e ∈ ent3 t rows, ∃ k tk, e.key = .int k tk
  | t, [], e, he => by simp [ent3] at he
  | t, it :: rows, e, he => by
    rcases List.mem_cons.mp he with rfl | he
    · exact ⟨_, _, rfl⟩
    · exact ent3_key (t + 3) rows e he
theorem ent2_key : ∀ (t : Nat) (rows : List Row), ∀ e ∈ ent2 t rows, ∃ k tk, e.key = .int k tk
  | t, [], e, he => by simp [ent2] at he
  | t, it :: rows, e, he => by
    rcases List.mem_cons.mp he with rfl | he
    · exact ⟨_, _, rfl⟩
    · exact ent2_key (t + 2) rows e he
theorem ent3_append : ∀ (t : Nat) (a b : List Row), ent3 t (a ++ b) = ent3 t a ++ ent3 (t + 3 * a.length) b
  | t, [], b => by simp [ent3]
  | t, it :: a, b => by
    rw [List.cons_append, ent3, ent3, ent3_append, List.cons_append, List.length_cons, show t + 3 + 3 * a.length = t + 3 * (a.length + 1) by omega]

/-- the display's own flush -/
noncomputable def flush (run : List Pair) (main : Option Addr) : Sem (Option Addr) :=
  if run.isEmpty = true then Pure.pure main
      else
        match main with
        | none => do
          let d ← PySem.subDict run
          Pure.pure (some d)
        | some d => do
          let sub ← PySem.holding [Value.ref d] (PySem.subDict run)
          (PySem.holding [Value.ref d, Value.ref sub] (PySem.mergeMapping d (Value.ref sub) false)).onRaise fun x => do
              let _ ← PySem.holding [Value.ref d, x] (runValue (Code.builtin "proto.let_go" { }))
              Pure.pure ()
          Pure.pure (some d)

theorem get_last {l : List Obj} {life : Life} {es : List DictEntry} {n : Nat} : (HL (l ++ [dOb es n]) life).get? l.length = some (dOb es n) := HL.get l [] life es n

theorem Go.flushFirst (hl : T.n₀ ≤ l.length) (c : List Row) (hc : c.length = 17) (nd : (rowHashes c).Nodup) :
    Go T (1 + (1 + (13 * c.length))) (flush (c.map (prOf P)) none) (St g dr os life l t) P (some l.length) (St g dr os life (l ++ [dOb (ent3 t c) c.length]) (t + 3 * c.length)) P := by
  unfold flush
  rw [if_neg (by rw [List.isEmpty_iff]; intro h; rw [List.map_eq_nil_iff] at h; rw [h] at hc; cases hc)]
  exact Go.bind (k := 1 + (1 + 13 * c.length)) (j := 0) (Go.subLong hl c (by omega) (by rw [hc]; decide) nd) Go.pure

theorem Go.flushMore (hl : T.n₀ ≤ l.length) (hs : sysModules < l.length) (c : List Row) (hc : c.length = 17) (M : List DictEntry) (n : Nat) (subs : List Obj) (hM : M ≠ []) (hsz : M.length + c.length ≤ sizeLine) (nd : (hashes M ++ rowHashes c).Nodup) :
    Go T (1 + (1 + (13 * c.length)) + (1 + (1 + (1 + (1 + (1 + (6 * c.length)))))) ) (flush (c.map (prOf P)) (some l.length)) (St g dr os life (l ++ dOb M n :: subs) t) P (some l.length)
      (St g dr os life (l ++ dOb (M ++ ent3 t c) (n + c.length) :: (subs ++ [dOb (ent3 t c) c.length])) (t + 3 * c.length)) P := by
  unfold flush
  rw [if_neg (by rw [List.isEmpty_iff]; intro h; rw [List.map_eq_nil_iff] at h; rw [h] at hc; cases hc)]
  dsimp only
  have len : ∀ M n, (l ++ dOb M n :: subs).length = l.length + (subs.length + 1) := by intro M n; simp
  have a1 := Go.subLong (T := T) (P := P) (g := g) (dr := dr) (os := os) (life := life) (t := t) (l := l ++ dOb M n :: subs) (by rw [len]; omega) c (by omega) (by rw [hc]; decide) (List.nodup_append.mp nd).2.1
  rw [List.append_assoc, List.cons_append, len] at a1
  have a2 := Go.merge (T := T) (q := P) (g := g) (dr := dr) (os := os) (life := life) (t := t + 3 * c.length) (l0 := l) (r := subs ++ [dOb (ent3 t c) c.length]) (x := l.length + (subs.length + 1)) hl (ent3 t c) M c.length n
    (fun M n => by
      have := get_last (l := l ++ dOb M n :: subs) (life := life) (es := ent3 t c) (n := c.length)
      rw [len, List.append_assoc, List.cons_append] at this
      exact this) (Nat.ne_of_gt (Nat.lt_of_lt_of_le hs (Nat.le_add_right _ _))) (ent3_key t c) hM (by rw [ent3_length]; exact hsz) (by rw [ent3_hashes]; exact nd)
  rw [ent3_length] at a2
  exact Go.bind (Go.holding a1) (Go.bind (k := 1 + (1 + (1 + (1 + (1 + (6 * c.length)))))) (j := 0) (Go.onRaise (Go.holding a2)) Go.pure)

theorem Go.flushLast (hl : T.n₀ ≤ l.length) (hs : sysModules < l.length) (c : List Row) (hc : c.length ≤ 15) (hne : c ≠ []) (M : List DictEntry) (n : Nat) (subs : List Obj) (hM : M ≠ []) (hsz : M.length + c.length ≤ sizeLine) (nd : (hashes M ++ rowHashes c).Nodup) :
    Go T (1 + (3 * c.length + (10 * c.length)) + (1 + (1 + (1 + (1 + (1 + (6 * c.length)))))) ) (flush (c.map (prOf P)) (some l.length)) (St g dr os life (l ++ dOb M n :: subs) t) P (some l.length)
      (St g dr os life (l ++ dOb (M ++ ent2 t c) (n + c.length) :: (subs ++ [dOb (ent2 t c) c.length])) (t + 2 * c.length + c.length)) P := by
  unfold flush
  rw [if_neg (by rw [List.isEmpty_iff]; intro h; rw [List.map_eq_nil_iff] at h; exact hne h)]
  dsimp only
  have len : ∀ M n, (l ++ dOb M n :: subs).length = l.length + (subs.length + 1) := by intro M n; simp
  have a1 := Go.subShort (T := T) (P := P) (g := g) (dr := dr) (os := os) (life := life) (t := t) (l := l ++ dOb M n :: subs) (by rw [len]; omega) c hc (List.nodup_append.mp nd).2.1
  rw [List.append_assoc, List.cons_append, len] at a1
  have a2 := Go.merge (T := T) (q := P) (g := g) (dr := dr) (os := os) (life := life) (t := t + 2 * c.length + c.length) (l0 := l) (r := subs ++ [dOb (ent2 t c) c.length]) (x := l.length + (subs.length + 1)) hl (ent2 t c) M c.length n
    (fun M n => by
      have := get_last (l := l ++ dOb M n :: subs) (life := life) (es := ent2 t c) (n := c.length)
      rw [len, List.append_assoc, List.cons_append] at this
      exact this) (Nat.ne_of_gt (Nat.lt_of_lt_of_le hs (Nat.le_add_right _ _))) (ent2_key t c) hM (by rw [ent2_length]; exact hsz) (by rw [ent2_hashes]; exact nd)
  rw [ent2_length] at a2
  exact Go.bind (Go.holding a1) (Go.bind (k := 1 + (1 + (1 + (1 + (1 + (6 * c.length)))))) (j := 0) (Go.onRaise (Go.holding a2)) Go.pure)
end
end Mine
end

/-! part H7 -/
section
open PySem PySem.W PyProof.Rows PySem.Calls
namespace Mine
noncomputable def subsOf : Nat → Nat → List Row → List Obj
  | 0, _, _ => []
  | c + 1, t, R => dOb (ent3 t (R.take 17)) 17 :: subsOf c (t + 51) (R.drop 17)
section
variable {T : Site} {α β γ : Type} {s s1 s' : Shared} {q q1 q' P : Pos} {a : α} {g : Array GenState} {dr : Drawn} {os : OsState} {life : Life} {l l0 r : List Obj} {t : Nat}
  {f : Option (Sem Value) × Sem Value → Option Addr × List Pair → Sem (ForInStep (Option Addr × List Pair))}

theorem Go.steps {m : Sem α} {k j : Nat} (e : k = j) (h : Go T k m s q a s' q') : Go T j m s q a s' q' := e ▸ h

theorem Go.chunks (h1 : ∀ x v main run, (run ++ [(x, v)]).length ≠ 17 → f (some x, v) (main, run) = Pure.pure (.yield (main, run ++ [(x, v)])))
    (h2 : ∀ x v main run, (run ++ [(x, v)]).length = 17 → f (some x, v) (main, run) = (flush (run ++ [(x, v)]) main >>= fun m => Pure.pure (.yield (m, []))))
    (hl : T.n₀ ≤ l.length) (hs : sysModules < l.length) {rest : List Row} {j : Nat} {res : Option Addr × List Pair} :
    ∀ (c : Nat) (R : List Row) (t : Nat) (M : List DictEntry) (n : Nat) (subs : List Obj), R.length = 17 * c → M ≠ [] → M.length + R.length ≤ sizeLine → (hashes M ++ rowHashes R).Nodup →
      Go T j (forIn (rest.map (itemOf P)) (some l.length, ([] : List Pair)) f) (St g dr os life (l ++ dOb (M ++ ent3 t R) (n + R.length) :: (subs ++ subsOf c t R)) (t + 3 * R.length)) P res s' q' →
      Go T (330 * c + j) (forIn ((R ++ rest).map (itemOf P)) (some l.length, ([] : List Pair)) f) (St g dr os life (l ++ dOb M n :: subs) t) P res s' q'
  | 0, R, t, M, n, subs, hR, _, _, _, h => by
    obtain rfl : R = [] := List.length_eq_zero_iff.mp (by omega)
    simpa [ent3, subsOf] using h
  | c + 1, R, t, M, n, subs, hR, hM, hsz, nd, h => by
    obtain ⟨C, R', rfl, hC⟩ : ∃ C R', R = C ++ R' ∧ C.length = 17 := ⟨R.take 17, R.drop 17, (List.take_append_drop 17 R).symm, by rw [List.length_take]; omega⟩
    rw [List.length_append] at hR hsz
    have hR' : R'.length = 17 * c := by omega
    have ndC : (hashes M ++ rowHashes C ++ rowHashes R').Nodup := by
      rw [List.append_assoc]
      simpa [rowHashes, List.map_append] using nd
    have e1 : subsOf (c + 1) t (C ++ R') = dOb (ent3 t C) 17 :: subsOf c (t + 51) R' := by
      have h1 : (C ++ R').take 17 = C := by rw [← hC]; exact List.take_left ..
      have h2 : (C ++ R').drop 17 = R' := by rw [← hC]; exact List.drop_left ..
      simp only [subsOf, h1, h2]
    have fm := Go.flushMore (T := T) (P := P) (g := g) (dr := dr) (os := os) (life := life) (t := t) hl hs C hC M n subs hM (by omega) (List.nodup_append.mp ndC).1
    have ih := Go.chunks h1 h2 hl hs c R' (t + 51) (M ++ ent3 t C) (n + C.length) (subs ++ [dOb (ent3 t C) C.length]) hR'
      (by simp [hM]) (by rw [List.length_append, ent3_length]; omega) (by
        have : hashes (M ++ ent3 t C) = hashes M ++ rowHashes C := by rw [hashes, List.map_append]; exact congrArg (_ ++ ·) (ent3_hashes t C)
        rw [this]; exact ndC) (by
        rw [e1, ent3_append, List.length_append, hC, ← List.append_assoc] at h
        rw [hC, List.append_assoc subs]
        rw [show t + 51 + 3 * R'.length = t + 3 * (17 + R'.length) by omega, show n + 17 + R'.length = n + (17 + R'.length) by omega]
        exact h)
    have z := Go.chunk (T := T) (P := P) (f := f) (fl := flush) h1 h2 (main := some l.length) (m := some l.length) (rest := R' ++ rest) C [] (by simpa using hC) (by intro e; rw [e] at hC; cases hC) fm (by rw [hC] at ih ⊢; exact ih)
    rw [List.append_assoc]
    exact Go.steps (by rw [hC]; omega) z

theorem Go.rowsLoop (h1 : ∀ x v main run, (run ++ [(x, v)]).length ≠ 17 → f (some x, v) (main, run) = Pure.pure (.yield (main, run ++ [(x, v)])))
    (h2 : ∀ x v main run, (run ++ [(x, v)]).length = 17 → f (some x, v) (main, run) = (flush (run ++ [(x, v)]) main >>= fun m => Pure.pure (.yield (m, []))))
    (hl : T.n₀ ≤ l.length) (hs : sysModules < l.length) (c : Nat) (R0 R1 R2 : List Row) (h0 : R0.length = 17) (hR1 : R1.length = 17 * c) (h3 : R2.length ≤ 15)
    (hsz : R0.length + R1.length + R2.length ≤ sizeLine) (nd : (rowHashes R0 ++ rowHashes R1).Nodup) :
    Go T (223 + 330 * c) (forIn ((R0 ++ (R1 ++ R2)).map (itemOf P)) (none, ([] : List Pair)) f) (St g dr os life l t) P (some l.length, R2.map (prOf P))
      (St g dr os life (l ++ dOb (ent3 t (R0 ++ R1)) (R0 ++ R1).length :: subsOf c (t + 51) R1) (t + 3 * (R0 ++ R1).length)) P := by
  have e1 : ent3 t (R0 ++ R1) = ent3 t R0 ++ ent3 (t + 51) R1 := by rw [ent3_append, h0]
  have ch := Go.chunks (T := T) (P := P) (g := g) (dr := dr) (os := os) (life := life) (l := l) (s' := St g dr os life (l ++ dOb (ent3 t (R0 ++ R1)) (R0 ++ R1).length :: subsOf c (t + 51) R1) (t + 3 * (R0 ++ R1).length)) (q' := P)
      (res := (some l.length, R2.map (prOf P))) (rest := R2) (j := 0) h1 h2 hl hs c R1 (t + 51) (ent3 t R0) R0.length [] hR1 (by intro e; have := ent3_length t R0; rw [e, h0] at this; cases this) (by rw [ent3_length]; omega)
      (by rw [ent3_hashes]; exact nd) (by
        have := Go.tail (T := T) (P := P) (s := St g dr os life (l ++ dOb (ent3 t (R0 ++ R1)) (R0 ++ R1).length :: subsOf c (t + 51) R1) (t + 3 * (R0 ++ R1).length)) (q := P) h1 (main := some l.length) R2 [] (by simp only [List.length_nil]; omega)
        rw [List.nil_append] at this
        rw [← e1, List.nil_append, ← List.length_append, show t + 51 + 3 * R1.length = t + 3 * (R0 ++ R1).length by rw [List.length_append, h0]; omega]
        exact this)
  have z := Go.chunk (T := T) (P := P) (fl := flush) h1 h2 (main := none) (m := some l.length) (rest := R1 ++ R2) (s := St g dr os life l t) (q := P) R0 [] (by simpa using h0) (by intro e; rw [e] at h0; cases h0)
      (Go.flushFirst (T := T) (P := P) (g := g) (dr := dr) (os := os) (life := life) (t := t) hl R0 h0 (List.nodup_append.mp nd).1) (by
        rw [show t + 51 = t + 3 * R0.length by omega] at ch
        exact ch)
  rw [h0] at z
  exact Go.steps (k := 1 + (1 + 13 * 17) + (330 * c + 0)) (by omega) z

/-- the display of the text, rows in chunks of seventeen and a last short one -/
theorem Go.display (hl : T.n₀ ≤ l.length) (hs : sysModules < l.length) (c : Nat) (R0 R1 R2 : List Row) (h0 : R0.length = 17) (hR1 : R1.length = 17 * c) (h2 : R2.length ≤ 15) (h2' : R2 ≠ [])
    (hsz : R0.length + R1.length + R2.length ≤ sizeLine) (nd : (rowHashes (R0 ++ R1 ++ R2)).Nodup) :
    Go T (223 + (330 * c + (6 + 19 * R2.length))) (PySem.dictDisplay ((R0 ++ (R1 ++ R2)).map (itemOf P))) (St g dr os life l t) P (.ref l.length)
      (St g dr os life (l ++ dOb (ent3 t (R0 ++ R1) ++ ent2 (t + 3 * (R0 ++ R1).length) R2) ((R0 ++ R1).length + R2.length) :: (subsOf c (t + 51) R1 ++ [dOb (ent2 (t + 3 * (R0 ++ R1).length) R2) R2.length])) (t + 3 * (R0 ++ R1).length + 2 * R2.length + R2.length)) P := by
  have nd' : (rowHashes R0 ++ rowHashes R1 ++ rowHashes R2).Nodup := by simpa [rowHashes, List.map_append] using nd
  unfold PySem.dictDisplay
  dsimp only
  have sz15 : (15 : Nat) ≤ sizeLine := by decide
  refine Go.bind (k := 223 + (330 * c + 0)) (j := 6 + 19 * R2.length) (a := (some l.length, R2.map (prOf P))) (q1 := P)
    (s1 := St g dr os life (l ++ dOb (ent3 t (R0 ++ R1)) (R0 ++ R1).length :: subsOf c (t + 51) R1) (t + 3 * (R0 ++ R1).length)) ?_ ?_ |> Go.steps (by omega)
  · refine Go.rowsLoop (T := T) (P := P) (g := g) (dr := dr) (os := os) (life := life) (t := t) ?_ ?_ hl hs c R0 R1 R2 h0 hR1 h2 hsz (List.nodup_append.mp nd').1
    · intro x v main run hlen
      dsimp only
      rw [if_neg (by simpa using hlen)]
    · intro x v main run hlen
      dsimp only
      rw [if_pos (by rw [hlen]; rfl)]
      rfl
  · dsimp only
    have fl := Go.flushLast (T := T) (P := P) (g := g) (dr := dr) (os := os) (life := life) (l := l) (t := t + 3 * (R0 ++ R1).length) hl hs R2 h2 h2' (ent3 t (R0 ++ R1)) (R0 ++ R1).length (subsOf c (t + 51) R1)
      (by intro e; have := ent3_length t (R0 ++ R1); rw [e, List.length_append, h0] at this; simp at this; omega) (by rw [ent3_length, List.length_append]; omega)
      (by rw [ent3_hashes]; simpa [rowHashes, List.map_append] using nd)
    refine Go.steps ?_ (Go.bind (k := 1 + (3 * R2.length + (10 * R2.length)) + (1 + (1 + (1 + (1 + (1 + (6 * R2.length))))))) (j := 0) fl Go.pure)
    omega
end
end Mine
end

/-! part H8 -/
section
open PySem PySem.W PyProof.Rows PySem.Calls
namespace Mine
noncomputable abbrev PW : Program := PySem.Challenge.pw_wb0060_01
@[reducible] noncomputable def pickB (i : Nat) {n a b d r t s ts bd p} (_ : PW.main.body[i]? = some (.FunctionDef n a b d r t s ts bd p)) : List Stmt := b
@[reducible] noncomputable def pickA (i : Nat) {n a b d r t s ts bd p} (_ : PW.main.body[i]? = some (.FunctionDef n a b d r t s ts bd p)) : Arguments := a
@[reducible] noncomputable def pickS (i : Nat) {n a b d r t s ts bd p} (_ : PW.main.body[i]? = some (.FunctionDef n a b d r t s ts bd p)) : Scope := s
@[reducible] noncomputable def pickK (i : Nat) {x p1 ks vs p2 p3} (_ : PW.main.body[i]? = some (.Assign [.Name x p1] (.Dict ks vs p2) p3)) : List (Option Expr) := ks
@[reducible] noncomputable def pickV (i : Nat) {x p1 ks vs p2 p3} (_ : PW.main.body[i]? = some (.Assign [.Name x p1] (.Dict ks vs p2) p3)) : List Expr := vs

noncomputable def rowOf : Option Expr × Expr → Row
  | (some (.Constant (.int k) _ _), .Constant (.str v) _ _) => (k, v)
  | _ => (0, "")
noncomputable def rows : List Row := ((pickK 6 rfl).zip (pickV 6 rfl)).map rowOf

/-- strictly rising, from nought on, below a bound -/
noncomputable def asc : Nat → List Row → Bool
  | _, [] => true
  | m, (.ofNat k, _) :: r => Nat.blt m k && Nat.blt k 200000 && asc k r
  | _, _ :: _ => false
theorem rows_asc : asc 0 rows = true := by decide +kernel
theorem rows_len : rows.length = 650 := by decide +kernel

theorem hashInt_small {k : Nat} (h : k < 200000) : hashInt (k : Int) = k := by
  unfold hashInt rawHash
  simp only [beq_iff_eq, Int.natAbs_natCast]
  repeat' split
  all_goals omega
theorem asc_hashes : ∀ (m : Nat) (r : List Row), asc m r = true → (∀ x ∈ rowHashes r, (m : Int) < x) ∧ (rowHashes r).Nodup
  | _, [], _ => ⟨fun _ h => (nomatch h), List.nodup_nil⟩
  | m, (.ofNat k, v) :: r, h => by
    simp only [asc, Bool.and_eq_true] at h
    obtain ⟨⟨h1, h2⟩, h3⟩ := h
    have h1 : m < k := Nat.le_of_ble_eq_true h1
    have h2 : k < 200000 := Nat.le_of_ble_eq_true h2
    have ih := asc_hashes k r h3
    have e : rowHashes ((.ofNat k, v) :: r) = (k : Int) :: rowHashes r := by
      show hashInt (k : Int) :: _ = _
      rw [hashInt_small h2]
    rw [e]
    refine ⟨fun x hx => ?_, List.nodup_cons.mpr ⟨fun hk => ?_, ih.2⟩⟩
    · rcases List.mem_cons.mp hx with rfl | hx
      · omega
      · have := ih.1 x hx; omega
    · have := ih.1 _ hk; omega
  | _, (.negSucc _, _) :: _, h => by simp [asc] at h
theorem rows_nodup : (rowHashes rows).Nodup := (asc_hashes 0 rows rows_asc).2
end Mine
end

/-! part H9 -/
section
open PySem PySem.W PyProof.Rows PySem.Calls
namespace Mine
noncomputable abbrev sv (s : String) (t : Nat) : Value := .str (Str.ofString s) t
noncomputable abbrev iv (i : Nat) : Value := .int i 0
noncomputable abbrev tupO (vs : List Value) : Obj := ⟨.type "tuple", none, .seq vs.toArray 0, #[]⟩
noncomputable abbrev tabO (vs : List Value) : Obj := ⟨.none, none, .fields vs.toArray, #[]⟩
noncomputable abbrev tmpO (nm : String) (a : Arguments) (b : List Stmt) (s : Scope) : Obj :=
  ⟨.none, none, .func { name := Str.ofString nm, qualname := Str.ofString nm, params := a, body := .stmts b, scope := s, globals := 0, closure := [], defaults := .none, kwdefaults := .none }, #[]⟩
noncomputable abbrev fnO (nm : String) (a : Arguments) (b : List Stmt) (s : Scope) (md : Value) (c : Addr) : Obj :=
  ⟨.type "function", none, .func { name := Str.ofString nm, qualname := Str.ofString nm, params := a, body := .stmts b, scope := s, globals := 3, closure := [], defaults := .none, kwdefaults := .none, pyModule := md, code := .ref c }, #[]⟩
noncomputable abbrev codO (nm : String) (t line argc flags A t2 : Nat) (v1 v2 v3 : Value) : Obj :=
  ⟨.type "code", none, .fields #[sv nm t, sv nm (t + 1), sv "/claim/cut.py" (t + 2), iv line, iv argc, iv 0, iv 0, iv flags, .ref A, .bool true, iv 181, .ref (A + 1), .none, v1, v2, v3, iv t2, iv line, sv "/claim/cut.py" (t2 + 1)], #[]⟩
noncomputable abbrev def7 (nm : String) (a : Arguments) (b : List Stmt) (s : Scope) (md : Value) (line argc flags A t t2 : Nat) (vars : List Value) : List Obj :=
  [tupO [], tabO [], tupO vars, tupO [], tmpO nm a b s, codO nm t line argc flags A t2 (.ref (A + 2)) (.ref (A + 3)) (.ref (A + 4)), fnO nm a b s md (A + 5)]
noncomputable abbrev def5 (nm : String) (a : Arguments) (b : List Stmt) (s : Scope) (md : Value) (line argc flags A t : Nat) : List Obj :=
  [tupO [], tabO [], tmpO nm a b s, codO nm t line argc flags A (t + 3) .none .none (.ref (A + 2)), fnO nm a b s md (A + 3)]
noncomputable abbrev en (P : Params) (nm : String) (t : Nat) (v : Value) : DictEntry := ⟨PyData.keyHash P (Str.ofString nm), sv nm t, v⟩
noncomputable abbrev mainO (P : Params) (nm : Value) (news : List DictEntry) : Obj := ⟨.type "dict", none, .dict ([en P "__name__" 165 nm, en P "__doc__" 166 .none, en P "__package__" 167 .none, en P "__loader__" 168 (.builtin "__main__.__loader__#opaque"),
  en P "__spec__" 169 .none, en P "__annotations__" 170 (.ref 6), en P "__builtins__" 171 (.ref 4), en P "__file__" 173 (sv "/claim/cut.py" 172), en P "__cached__" 174 .none] ++ news).toArray (9 + news.length), #[]⟩
noncomputable abbrev baseL (P : Params) (nm : Value) (news : List DictEntry) (tab : List Value) : List Obj :=
  [boot_o_0 P, boot_o_1 P, boot_o_2 P, mainO P nm news, boot_o_4 P, boot_o_5 P, boot_o_6 P, boot_o_7 P, boot_o_8 P, boot_o_9 P, boot_o_10 P, tupO [], tabO tab,
   ⟨.type "code", none, .fields #[sv "<module>" 182, sv "<module>" 183, sv "/claim/cut.py" 184, iv 1, iv 0, iv 0, iv 0, iv 0, .ref 11, .bool false, iv 181, .ref 12, .none, .none, .none, .none, iv 185, iv 1, sv "/claim/cut.py" 186], #[]⟩,
   ⟨.type "frame", none, .plain, #[some (.ref 13), some (.ref 3), some (.ref 3), none, some (sv "__main__" 164), none, some (.ref 0)]⟩]
noncomputable abbrev env0 : Env := { scope := PW.main.scope, locals := mainNs, globals := mainNs, cells := [], code := .ref 13, frame := some 14 }
noncomputable abbrev cod0 : Code := .body (behindTheImports PW) env0
noncomputable abbrev p0 : Pos := ⟨0, 0, 0, 0⟩
noncomputable abbrev mk (l : List Obj) (t : Nat) (os : OsState) : Shared := ⟨HL l {}, #[], {}, t, os⟩
noncomputable abbrev sBoot (w : World) (os : OsState) : Shared := ⟨boot_heap w.params, #[], boot_drawn, boot_toks, os⟩
noncomputable abbrev mn0 : Value := sv "__main__" 164

theorem run_pre (w : World) (os : OsState) : topGo treeTable PW w 11 (some (.ref 6)) 12 (sBoot w os) (topStub PW) = some (mk (baseL w.params mn0 [] []) 187 os, ⟨denote treeTable cod0, cod0, p0, [topFrame p0]⟩) := by kernel_rfl
theorem run_block (w : World) (os : OsState) : segRun treeTable PW w 11 (some (.ref 6)) 1 1 (mk (baseL w.params mn0 [] []) 187 os) (blockOf (behindTheImports PW) env0 cod0 p0 [topFrame p0]) = some (.next, mk (baseL w.params mn0 [] []) 187 os, cod0, p0) := by kernel_rfl

noncomputable abbrev md1 : Value := sv "cpy313.locale" 187
noncomputable abbrev md2 : Value := sv "cpy313.dis" 200
noncomputable abbrev md3 : Value := sv "cpy313.stringprep" 211
noncomputable abbrev news6 (P : Params) : List DictEntry := [en P "CHAR_MAX" 190 (.int 127 189), en P "_grouping_intervals" 199 (.ref 21), en P "_parse_varint" 210 (.ref 28)]
noncomputable abbrev tab6 : List Value := [iv 3, iv 0, .ref 20, iv 16, iv 0, .ref 27]
noncomputable abbrev gi7 : List Obj := def7 "_grouping_intervals" (pickA 2 rfl) (pickB 2 rfl) (pickS 2 rfl) md1 3 1 35 15 191 197 [sv "grouping" 194, sv "last_interval" 195, sv "interval" 196]
noncomputable abbrev pv7 : List Obj := def7 "_parse_varint" (pickA 4 rfl) (pickB 4 rfl) (pickS 4 rfl) md2 16 1 3 22 202 208 [sv "iterator" 205, sv "b" 206, sv "val" 207]
noncomputable abbrev L6 (P : Params) : List Obj := baseL P md3 (news6 P) tab6 ++ (gi7 ++ pv7)
noncomputable abbrev p6 : Pos := ⟨24, 0, 24, 8⟩
theorem run_a (w : World) (os : OsState) : segRun treeTable PW w 11 (some (.ref 6)) 1 99 (mk (baseL w.params mn0 [] []) 187 os) (piecesOf (PW.main.body.take 6) env0 cod0 p0 [topFrame p0]) = some (.next, mk (L6 w.params) 213 os, cod0, p6) := by kernel_rfl
end Mine
end

/-! part H10 -/
section
open PySem PySem.W PyProof.Rows PySem.Calls
namespace Mine
@[reducible] noncomputable def pickP (i : Nat) {x p1 ks vs p2 p3} (_ : PW.main.body[i]? = some (.Assign [.Name x p1] (.Dict ks vs p2) p3)) : Pos := p2
noncomputable abbrev pD : Pos := pickP 6 rfl
noncomputable abbrev p7 : Pos := ⟨25, 0, 25, 13⟩
theorem items_eq : (evalEachOpt (pickK 6 rfl) env0).zip ((evalEach (pickV 6 rfl) env0).map fun v => do let x ← v; standAt pD; pure x) = rows.map (itemOf pD) := by kernel_rfl

noncomputable abbrev site (w : World) : Site := ⟨PW, w, 11, some (.ref 6), cod0, p0⟩
noncomputable abbrev news7 (P : Params) (t : Nat) : List DictEntry := news6 P ++ [en P "b3_exceptions" t (.ref 29)]
noncomputable abbrev L7 (P : Params) (t : Nat) : List Obj := baseL P md3 (news7 P t) tab6 ++ (gi7 ++ pv7)

theorem Go.assign_b3 (w : World) (os : OsState) (E : List DictEntry) (n t : Nat) (subs : List Obj) (q : Pos) :
    Go (site w) 7 (assign (.Name "b3_exceptions" p7) env0 (.ref 29)) (St #[] {} os {} (L6 w.params ++ dOb E n :: subs) t) q () (St #[] {} os {} (L7 w.params t ++ dOb E n :: subs) (t + 1)) p7 := by
  intro K H gd lv
  kernel_rfl

noncomputable abbrev R0 : List Row := rows.take 17
noncomputable abbrev R1 : List Row := (rows.drop 17).take 629
noncomputable abbrev R2 : List Row := rows.drop 646
theorem rows_split : rows = R0 ++ (R1 ++ R2) := by
  have : R2 = (rows.drop 17).drop 629 := by rw [List.drop_drop]
  rw [this, List.take_append_drop, List.take_append_drop]
theorem R0_len : R0.length = 17 := by rw [List.length_take, rows_len]; rfl
theorem R1_len : R1.length = 17 * 37 := by rw [List.length_take, List.length_drop, rows_len]; rfl
theorem R2_len : R2.length = 4 := by rw [List.length_drop, rows_len]
theorem R01_len : (R0 ++ R1).length = 646 := by rw [List.length_append, R0_len, R1_len]

/-- the table's entries as the display lays them -/
noncomputable def bigE : List DictEntry := ent3 213 (R0 ++ R1) ++ ent2 2151 R2
noncomputable def subL : List Obj := subsOf 37 264 R1 ++ [dOb (ent2 2151 R2) 4]
theorem L6_len (P : Params) : (L6 P).length = 29 := rfl

theorem Go.display_b3 (w : World) (os : OsState) : Go (site w) (223 + (330 * 37 + (6 + 19 * 4))) (PySem.dictDisplay (rows.map (itemOf pD))) (mk (L6 w.params) 213 os) pD (.ref 29)
    (mk (L6 w.params ++ dOb bigE 650 :: subL) 2163 os) pD := by
  have := Go.display (T := site w) (P := pD) (g := #[]) (dr := {}) (os := os) (life := {}) (l := L6 w.params) (t := 213) (by rw [L6_len]; show 11 ≤ 29; decide) (by rw [L6_len]; decide) 37 R0 R1 R2 R0_len R1_len (by rw [R2_len]; decide)
    (by intro e; have := R2_len; rw [e] at this; cases this) (by rw [R0_len, R1_len, R2_len]; decide) (by rw [List.append_assoc, ← rows_split]; exact rows_nodup)
  rw [R01_len, R2_len, ← rows_split, L6_len] at this
  exact this

theorem Go.stmt_b3 (w : World) (os : OsState) {p3 : Pos} : Go (site w) (1 + (1 + (223 + (330 * 37 + (6 + 19 * 4))) + 7)) (exec (.Assign [.Name "b3_exceptions" p7] (.Dict (pickK 6 rfl) (pickV 6 rfl) pD) p3) env0) (mk (L6 w.params) 213 os) p6 .next
    (mk (L7 w.params 2163 ++ dOb bigE 650 :: subL) 2164 os) p7 := by
  refine Go.bind (k := 1) (Go.standAt (q' := p3)) ?_
  refine Go.bind0 (a := false) (Go.of_eq (by rfl) Go.pure) ?_
  rw [if_neg (by decide)]
  refine Go.bind (k := 1 + (223 + (330 * 37 + (6 + 19 * 4)))) (j := 7) (a := .ref 29) (s1 := mk (L6 w.params ++ dOb bigE 650 :: subL) 2163 os) (q1 := pD) ?_ ?_
  · refine Go.bind (k := 1) (Go.standAt (q' := pD)) ?_
    refine Go.of_eq ?_ (Go.display_b3 w os)
    exact congrArg _ items_eq
  · refine Go.bind0 (a := none) (Go.of_eq (by rfl) Go.pure) ?_
    exact Go.bind (k := 7) (j := 0) (Go.assign_b3 w os bigE 650 2163 subL pD) Go.pure

theorem run_b (w : World) (os : OsState) : segRun treeTable PW w 11 (some (.ref 6)) 1 (1 + (1 + (223 + (330 * 37 + (6 + 19 * 4))) + 7) + 1) (mk (L6 w.params) 213 os) (piecesOf [PW.main.body[6]] env0 cod0 p6 [topFrame p0])
    = some (.next, mk (L7 w.params 2163 ++ dOb bigE 650 :: subL) 2164 os, cod0, p7) := by
  have go := Go.bind (k := 1 + (1 + (223 + (330 * 37 + (6 + 19 * 4))) + 7)) (j := 0) (f := fun f => match f with | .next => (Pure.pure .next : Sem Flow) | f => Pure.pure f) (Go.stmt_b3 w os (p3 := ⟨25, 0, 25, 8704⟩)) Go.pure
  have z := go doneF deadEnd id id
  exact seg_go z rfl
end Mine
end

/-! part H11 -/
section
open PySem PySem.W PyProof.Rows PySem.Calls
namespace Mine
noncomputable abbrev md4 : Value := sv "law_wb0060_01" 2172
noncomputable abbrev newsF (P : Params) : List DictEntry := news7 P 2163 ++ [en P "map_table_b3" 2171 (.ref 74), en P "_law_octets" 2181 (.ref 81), en P "_law_votes" 2187 (.ref 86), en P "_law_marks" 2198 (.ref 93),
  en P "_law_dealt" 2204 (.ref 98), en P "law" 2210 (.ref 103)]
noncomputable abbrev tabF : List Value := [iv 3, iv 0, .ref 20, iv 16, iv 0, .ref 27, iv 26, iv 0, .ref 73, iv 32, iv 0, .ref 80, iv 38, iv 0, .ref 85, iv 47, iv 0, .ref 92, iv 56, iv 0, .ref 97, iv 70, iv 0, .ref 102]
noncomputable abbrev b37 : List Obj := def7 "map_table_b3" (pickA 7 rfl) (pickB 7 rfl) (pickS 7 rfl) md3 26 1 3 68 2164 2169 [sv "code" 2167, sv "r" 2168]
noncomputable abbrev oct7 : List Obj := def7 "_law_octets" (pickA 9 rfl) (pickB 9 rfl) (pickS 9 rfl) md4 32 1 3 75 2174 2179 [sv "number" 2177, sv "digits" 2178]
noncomputable abbrev votes5 : List Obj := def5 "_law_votes" (pickA 10 rfl) (pickB 10 rfl) (pickS 10 rfl) md4 38 1 3 82 2182
noncomputable abbrev marks7 : List Obj := def7 "_law_marks" (pickA 11 rfl) (pickB 11 rfl) (pickS 11 rfl) md4 47 2 3 87 2188 2196 [sv "size" 2191, sv "held" 2192, sv "mark" 2193, sv "many" 2194, sv "told" 2195]
noncomputable abbrev dealt5 : List Obj := def5 "_law_dealt" (pickA 12 rfl) (pickB 12 rfl) (pickS 12 rfl) md4 56 2 3 94 2199
noncomputable abbrev law5 : List Obj := def5 "law" (pickA 13 rfl) (pickB 13 rfl) (pickS 13 rfl) md4 70 1 3 99 2205
noncomputable abbrev tailF : List Obj := b37 ++ (oct7 ++ (votes5 ++ (marks7 ++ (dealt5 ++ law5))))
noncomputable abbrev LF (P : Params) : List Obj := baseL P md4 (newsF P) tabF ++ (gi7 ++ pv7) ++ dOb bigE 650 :: (subL ++ tailF)
noncomputable abbrev pF : Pos := ⟨70, 0, 94, 29⟩
theorem subL_len : subL.length = 38 := by decide +kernel
theorem run_c (w : World) (os : OsState) : segRun treeTable PW w 11 (some (.ref 6)) 1 181 (mk (L7 w.params 2163 ++ dOb bigE 650 :: subL) 2164 os) (piecesOf (PW.main.body.drop 7) env0 cod0 p7 [topFrame p0]) = some (.next, mk (LF w.params) 2211 os, cod0, pF) := by kernel_rfl
end Mine
end

/-! part H12 -/
section
open PySem PySem.W PyProof.Rows PySem.Calls
namespace Mine
noncomputable abbrev nB : Nat := 1 + (1 + (223 + (330 * 37 + (6 + 19 * 4))) + 7) + 1
noncomputable abbrev nAll : Nat := 12 + (1 + (99 + (nB + (181 + 2))))
theorem run_all (w : World) (os : OsState) : topRun treeTable PW w 11 (some (.ref 6)) nAll (sBoot w os) (topStub PW) = some (mk (LF w.params) 2211 os) := by
  refine go_top (run_pre w os) ?_
  refine piece_block (run_block w os) ?_
  rw [show behindTheImports PW = PW.main.body.take 6 ++ ([PW.main.body[6]] ++ (PW.main.body.drop 7 ++ [])) from rfl]
  refine piece_app (run_a w os) ?_
  refine piece_app (run_b w os) ?_
  refine piece_app (run_c w os) ?_
  exact rfl
end Mine
end

/-! part H13 -/
section
open PySem PySem.W PyProof.Rows PySem.Calls
namespace Mine
@[reducible] noncomputable def pickT (i : Nat) {s : Stmt} (_ : PW.main.body[i]? = some s) : Stmt := s
/-- the text without what the library's words cannot say -/
noncomputable def qv : Program := { PW with main := { PW.main with body := [pickT 1 rfl, pickT 2 rfl, pickT 4 rfl, pickT 7 rfl, pickT 9 rfl, pickT 10 rfl, pickT 11 rfl, pickT 12 rfl, pickT 13 rfl] } }
noncomputable abbrev KA : List Addr := [2, 3, 6, 15, 17, 18, 20, 21, 22, 24, 25, 27, 28, 29, 68, 70, 71, 73, 74, 75, 77, 78, 80, 81, 82, 85, 86, 87, 89, 90, 92, 93, 94, 97, 98, 99, 102, 103]
/-- the written part of the heap behind the top -/
noncomputable def KW (P : Params) : Frag := KA.map fun a => (a, (LF P).getD a default)
noncomputable abbrev HK : Hook := kHook KW KA (fun _ => by kernel_rfl)
noncomputable abbrev rW : RowW := PySem.Challenge.rw_wb0060_01.row.toRowW
noncomputable abbrev XtW : Shared → Bool := fun s => xlAt qv [] s && recOk (RowW.records rW) s
noncomputable abbrev H1 (P : Params) : Heap := HL (LF P) {}
theorem left_open : ∀ w : World, (fencedOpening treeTable PW w (nAll + 600)).map (fun s => (s.heap, s.gens, s.drawn, s.toks)) = some (boot_heap w.params, Array.mk [], boot_drawn, boot_toks) :=
  boot_open rfl (Nat.ble_eq_true_of_le (Nat.le_add_left ..)) (fun _ => rfl)
theorem left_size : ∀ w : World, ((boot_heap w.params).isNs mainGlobals && (Array.mk [] : Array GenState).size == 0, (boot_heap w.params).objs.size, (boot_heap w.params).nsMap mainGlobals "__annotations__") = (true, 11, some (.ref 6)) := by
  intro w
  kernel_rfl

theorem looks1 (w : World) (os : OsState) : (staticsOk (importedModules PW.main.body) (boot_heap w.params) (H1 w.params) && namesBound PW (H1 w.params) && gensDone (mk (LF w.params) 2211 os) && laidKept (boot_heap w.params) (H1 w.params)) = true := by kernel_rfl

theorem looks2 (w : World) (os : OsState) : Hook.obs HK (mk (LF w.params) 2211 os) = Hook.val HK w := by kernel_rfl


noncomputable abbrev sF (w : World) (os : OsState) : Shared := mk (LF w.params) 2211 os
theorem k1 (w : World) (os : OsState) : seen ((recsOf qv).map (·.name)) (ownsOf qv) [] { sF w os with gens := #[] } = expectedOf qv := by kernel_rfl
theorem k2 (w : World) (os : OsState) : (sF w os).heap.bltView = bltViewBooted := by kernel_rfl
theorem k3a (w : World) (os : OsState) : (sF w os).heap.keysOk (looseW qv ["b3_exceptions"]) ((recsOf qv).map (·.name)) ((litsOf qv).map (·.1)) ((clssOf qv (looseW qv ["b3_exceptions"])).map (·.name)) = true := by kernel_rfl
theorem k3b (w : World) (os : OsState) : (sF w os).heap.accountedOkI (importedModules PW.main.body) = true := by kernel_rfl
theorem k3c (w : World) (os : OsState) : ((sF w os).heap.isNs mainGlobals && (sF w os).heap.isNs builtinsNs) = true := by kernel_rfl
theorem k3e (w : World) (os : OsState) : XtW (sF w os) = true := by kernel_rfl
theorem k4 (w : World) (os : OsState) : tabsOk qv (sF w os) = true := by kernel_rfl
theorem k5 (w : World) (os : OsState) : pinSeenD qv (drecsOf qv) (sF w os) = pinGoodD (drecsOf qv) := by kernel_rfl
theorem k6 (w : World) (os : OsState) : plainSeenE qv (looseW qv ["b3_exceptions"]) (sF w os) = plainGoodE qv (looseW qv ["b3_exceptions"]) := by kernel_rfl
theorem k7 (w : World) (os : OsState) : plainSeenD qv ["b3_exceptions"] (sF w os) = plainGoodD qv ["b3_exceptions"] := by kernel_rfl
theorem k8 (w : World) (os : OsState) : wideSeen qv (sF w os) = wideGood qv := by kernel_rfl
theorem k9 (w : World) (os : OsState) : clsSeenW qv ["b3_exceptions"] (sF w os) = clsGoodW qv ["b3_exceptions"] := by kernel_rfl

theorem looks3 (w : World) (os : OsState) : openSeen qv ["b3_exceptions"] (importedModules PW.main.body) XtW true (sF w os) = openGood qv ["b3_exceptions"] := by
  unfold openSeen openGood
  refine looks_pair (k1 w os) (looks_pair (k2 w os) (looks_pair ?_ (looks_pair (k4 w os) (looks_pair (k5 w os) (looks_pair (k6 w os) (looks_pair (k7 w os) (looks_pair (k8 w os) (k9 w os))))))))
  refine look_both (look_both (look_both (look_both (look_both (look_both (k3a w os) (k3b w os)) ?_) ?_) ?_) (k3e w os)) ?_
  all_goals kernel_rfl
noncomputable abbrev YaW : World → HK.α := Hook.val HK
theorem left : LeftO PW qv ["b3_exceptions"] XtW (Hook.obs HK) (Hook.val HK) (nAll + 600) := by
  refine LeftO.of_pieces (H₁ := H1) (gs₁ := #[]) (d₁ := {}) (k₁ := 2211) (M := nAll) left_open left_size run_all (Nat.ble_eq_true_of_le (Nat.le_add_right ..)) fun w => funext fun os => ?_
  exact looks_pair (looks1 w os) (looks_pair (looks3 w os) (looks2 w os))
end Mine
end

/-! part H14 -/
section
open PySem PySem.W PyProof.Rows PySem.Calls
namespace Mine
noncomputable abbrev rwO : OpenLaw := PySem.Challenge.rw_wb0060_01
noncomputable def lawD : DefRec × List (Str × Expr) := (defOf qv "law").get (by decide +kernel)
set_option maxHeartbeats 0 in
theorem hd (walk : WalkO qv ["b3_exceptions"] (XL qv []) HK.says rwO.row.toRowW lawD.1 lawD.2 fun f vs => PySem.call f vs) : rwO.Holds := by
  show PySem.Challenge.rw_wb0060_01.Holds
  w_on
  o_law
  refine W.holds_open (r := rwO.row) (q := qv) (loose := ["b3_exceptions"]) (Xt := XtW) (XP := XL qv []) (Yf := Hook.obs HK) (Ya := Hook.val HK) (YP := Hook.says HK) (N := nAll + 600) (d := lawD.1) (kwd := lawD.2) left (Hook.of HK) (Hook.keeps HK)
    (fun s e => xl_of s (Bool.and_eq_true_iff.mp e).1) XL.keeps (by rfl) (by rfl) (by rfl) (fun s e => recFacts_of (Bool.and_eq_true_iff.mp e).2) (by rfl) (by assumption) (by decide +kernel) ⟨rfl, rfl, rfl, rfl, rfl, by decide +kernel⟩ ?hw walk
  exact ⟨[.list []], by decide +kernel, by decide +kernel⟩
end Mine
end

/-! part G3 -/
section
open PySem PySem.W PyProof.Rows PySem.Calls
namespace Mine
noncomputable abbrev giB : List Stmt := pickB 2 rfl
noncomputable abbrev giA : Arguments := pickA 2 rfl
noncomputable abbrev giS : Scope := pickS 2 rfl

noncomputable def Since (Lg N : Addr) (s₀ s : Shared) : Prop :=
  ∃ h' tk, s = { s₀ with heap := h', toks := tk } ∧ ∀ b o, b ≠ Lg → b < N → s₀.heap.get? b = some o → h'.get? b = some o
theorem Since.refl (Lg N : Addr) (s : Shared) : Since Lg N s s := ⟨s.heap, s.toks, rfl, fun _ _ _ _ e => e⟩
theorem Since.step {Lg N : Addr} {s₀ s : Shared} (x : Since Lg N s₀ s) {h' : Heap} {tk : Nat} (hk : ∀ b o, b ≠ Lg → b < N → s.heap.get? b = some o → h'.get? b = some o) :
    Since Lg N s₀ { s with heap := h', toks := tk } := by
  obtain ⟨h₁, tk₁, rfl, hk₁⟩ := x
  exact ⟨h', tk, rfl, fun b o hC hw e => hk b o hC hw (hk₁ b o hC hw e)⟩

/-- what the road of equal marks says at each yield -/
noncomputable def giY (L Lg N : Addr) (size : Int) : Protocol := fun k s₀ v s kap =>
  (∃ tk, v = .int size tk) ∧ Since Lg N s₀ s ∧ (0 < k → ∀ s'' : Shared, KeepsBut L s.heap s''.heap → kap (.send .none) s'')

noncomputable abbrev giEnv (L a : Addr) (cd : Value) : Env := envOf "_grouping_intervals" giS L a cd

section
variable {prog : Program} {w : World} {A : Around} {R : GenEnd} {fs : List Frame} {a L Lg N : Addr} {cd : Value} {g : Heap} {size : Int}

theorem gi_while {k : Nat} {p1 p2 p3 p4 : Pos} (hfs : splitAtGen fs = none) (hfg : fs.any Frame.guarded = false) (hL : g.objs.size ≤ L) :
    ∀ (n : Nat) (s₀ s : Shared) (m : Str → Option Value) (tk : Tok), Fr g Lg s.heap m → m "last_interval" = some (.int size tk) → Since Lg N s₀ s → Lg ≠ L →
      Seg (model prog w) A R (giY L Lg N size) (n + 1) s₀
        (.whileLoop (.Constant (.bool true) k p1) [.Expr (.Yield (some (.Name "last_interval" p2)) p3) p4] [] (giEnv Lg a cd))
        ((model prog w).den (.whileLoop (.Constant (.bool true) k p1) [.Expr (.Yield (some (.Name "last_interval" p2)) p3) p4] [] (giEnv Lg a cd))) fs s := by
  intro n
  induction n with
  | zero =>
    intro s₀ s m tk F hm hsi hLL
    refine seg_whileLoop ?_
    walk1; walk1; walk1
    rw [if_pos rfl]
    refine seg_execs_cons (seg_Expr_Yield hfs rfl hfg (ld F hm ?_))
    intro kap _
    exact ⟨⟨tk, rfl⟩, hsi, fun h => absurd h (Nat.lt_irrefl 0)⟩
  | succ n ih =>
    intro s₀ s m tk F hm hsi hLL
    refine seg_whileLoop ?_
    walk1; walk1; walk1
    rw [if_pos rfl]
    refine seg_execs_cons (seg_Expr_Yield hfs rfl hfg (ld F hm ?_))
    intro kap hk
    refine ⟨⟨tk, rfl⟩, hsi, fun _ s'' hb => hk .none s'' ?_⟩
    refine seg_execs_nil (seg_again rfl ?_)
    refine ih s'' s'' m tk ⟨F.ns.at' fun o e => hb _ o hLL e, fun b o e => hb b o ?_ (F.keep b o e), F.above⟩ hm (Since.refl ..) hLL
    exact Nat.ne_of_lt (Nat.lt_of_lt_of_le (Heap.lt_size e) hL)

theorem stS {M : Model} {A : Around} {E : Value → Shared → Prop} {s : Shared} {name : Str} {scope : Scope} {L a : Addr} {cd : Value} {h₀ : Heap} {m : Str → Option Value} {x : Str} {v : Value} {Q : Unit → Shared → Prop} (F : Fr h₀ L s.heap m)
    (h : ∀ h', Fr h₀ L h' (fun y => if y = x then some v else m y) → Heap.SameBut L s.heap h' → Q () { s with heap := h', toks := s.toks + 1 })
    (hk : scope.kind = .function := by rfl) (hl : (envOf name scope L a cd).kindOf x = some .local := by rfl) :
    wpAny M A (storeName (envOf name scope L a cd) x v) Q E s :=
  wpAny_storeName_local hl F.ns (fun h' hn hs => h h' (F.set hn hs) hs)
    (by show (scope.kind == .class || (scope.kind == .module && L != mainGlobals)) = false; rw [hk]; rfl)

/-- the first pass of the road, and the pass behind its first mark -/
theorem gi_body {pg : Program} {loose : List Str} {mg mb : Str → Option Value} {K : Frag} {tc : Tok} {l : Addr} {t1 t2 : Tok} {m0 : Str → Option Value}
    (X : K.In g) (T : TopRead pg loose mg mb g) (hcm : nsIn K mainGlobals "CHAR_MAX" = some (some (.int 127 tc)))
    (hL : g.objs.size ≤ L) (hLL : Lg ≠ L) (hLN : L < N) (hlN : l < N) (hlL : l ≠ L) (hlg : l ≠ Lg) (hz : size ≠ 0) (hz' : size ≠ 127) (hgN : Lg < N)
    (n : Nat) (s : Shared) (hN : N ≤ s.heap.objs.size) (F : Fr g Lg s.heap m0) (hm : m0 "grouping" = some (.ref l)) (hl : s.heap.IsList l #[.int size t1, .int 0 t2]) :
      Seg (model prog w) A R (giY L Lg N size) (n + 1) s (.func giB (giEnv Lg a cd)) ((model prog w).den (.func giB (giEnv Lg a cd))) [] s := by
  refine seg_func ?_
  refine seg_execs_cons (seg_exec_plain (wpAny_Assign_Name (Constant_none (stS F fun h1 F1 k1 => ?_))))
  have hl1 : h1.IsList l #[.int size t1, .int 0 t2] := hl.at fun o e => (k1.2 _ hlg).trans e
  refine seg_execs_cons (seg_exec_For (ld F1 hm (wpAny_pyIter_list hl1 fun p => ?_)))
  have hit : (h1.push { cls := .type "list_iterator", data := .fields #[.ref l, .int 0 0] }).IsListIter h1.objs.size l 0 := ⟨_, Heap.get?_push_size _ rfl, rfl, rfl⟩
  have hsz : h1.objs.size = s.heap.objs.size := k1.1
  have hIN : N ≤ h1.objs.size := hsz ▸ hN
  generalize hI : h1.objs.size = I at hit hIN
  have hgI : Lg < I := Nat.lt_of_lt_of_le hgN hIN
  have hLI : L ≠ I := Nat.ne_of_lt (Nat.lt_of_lt_of_le hLN hIN)
  have hlI : l ≠ I := Nat.ne_of_lt (Nat.lt_of_lt_of_le hlN hIN)
  refine seg_forLoop (wpAny_pyNext_list_item hit (hl1.at fun _ e => Heap.get?_push_of_some _ e) (x := .int size t1) rfl fun h2 hit2 k2 => ?_)
  have F2 := (F1.push { cls := .type "list_iterator", data := .fields #[.ref l, .int 0 0] }).sameNew hgI k2
  refine stS F2 fun h3 F3 k3 => ?_
  have since3 : Since Lg N s { s with heap := h3, toks := s.toks + 1 + 1 } := (Since.refl Lg N s).step fun b o hb hbN e =>
    (k3.2 _ hb).trans ((k2.2 _ (Nat.ne_of_lt (Nat.lt_of_lt_of_le hbN hIN))).trans (Heap.get?_push_of_some _ ((k1.2 _ hb).trans e)))
  have hl3 : h3.IsList l #[.int size t1, .int 0 t2] := hl1.at fun o e => (k3.2 _ hlg).trans ((k2.2 _ hlI).trans (Heap.get?_push_of_some _ e))
  have hit3 : h3.IsListIter I l 1 := hit2.at fun o e => (k3.2 _ (Nat.ne_of_gt hgI)).trans e
  refine seg_execs_cons (seg_exec_If (wpAny_isTrue_Compare1 (ld F3 rfl (name_K F3 X T hcm (eq_int (wpAny_truthy_bool ?_))))))
  rw [if_neg (by simpa using hz')]
  refine seg_execs_nil ?_
  refine seg_execs_cons (seg_exec_If (wpAny_isTrue_Compare1 (ld F3 rfl (wpAny_Constant_int (eq_int (wpAny_truthy_bool ?_))))))
  rw [if_neg (by simpa using hz)]
  refine seg_execs_nil ?_
  refine seg_execs_cons (seg_Expr_Yield rfl rfl rfl (ld F3 rfl ?_))
  intro kap hk
  refine ⟨⟨t1, rfl⟩, since3.step fun _ _ _ _ e => e, fun hn s'' hb => hk .none s'' ?_⟩
  cases n with
  | zero => exact absurd hn (Nat.lt_irrefl 0)
  | succ n =>
    have up : ∀ {h : Heap} {m : Str → Option Value}, Fr g Lg h m → KeepsBut L h s''.heap → Fr g Lg s''.heap m := fun F hb =>
      ⟨F.ns.at' fun o e => hb _ o hLL e, fun b o e => hb b o (Nat.ne_of_lt (Nat.lt_of_lt_of_le (Heap.lt_size e) hL)) (F.keep b o e), F.above⟩
    have F4 := up F3 hb
    have hl4 : s''.heap.IsList l #[.int size t1, .int 0 t2] := hl3.at fun o e => hb _ o hlL e
    have hit4 : s''.heap.IsListIter I l 1 := hit3.at fun o e => hb _ o (Ne.symm hLI) e
    refine seg_execs_cons (seg_exec_plain (wpAny_Assign_Name (ld F4 rfl (stS F4 fun h5 F5 k5 => ?_))))
    have hl5 : h5.IsList l #[.int size t1, .int 0 t2] := hl4.at fun o e => (k5.2 _ hlg).trans e
    have hit5 : h5.IsListIter I l 1 := hit4.at fun o e => (k5.2 _ (Nat.ne_of_gt hgI)).trans e
    refine seg_execs_nil (seg_again rfl ?_)
    refine seg_forLoop (wpAny_pyNext_list_item hit5 hl5 (x := .int 0 t2) rfl fun h6 hit6 k6 => ?_)
    have F6 := F5.sameNew hgI k6
    refine stS F6 fun h7 F7 k7 => ?_
    refine seg_execs_cons (seg_exec_If (wpAny_isTrue_Compare1 (ld F7 rfl (name_K F7 X T hcm (eq_int (wpAny_truthy_bool ?_))))))
    rw [if_neg (by decide)]
    refine seg_execs_nil ?_
    refine seg_execs_cons (seg_exec_If (wpAny_isTrue_Compare1 (ld F7 rfl (wpAny_Constant_int (eq_int (wpAny_truthy_bool ?_))))))
    rw [if_pos (by decide)]
    refine seg_execs_cons (seg_exec_If (wpAny_isTrue_Compare1 (ld F7 rfl (Constant_none (wpAny_is_other rfl (by intro e; cases e) (wpAny_truthy_bool ?_))))))
    rw [if_neg (by decide)]
    refine seg_execs_nil ?_
    refine seg_execs_cons (seg_While fun p' => ?_)
    refine gi_while rfl rfl hL n _ _ _ t1 F7 rfl ?_ hLL
    exact ((Since.refl Lg N s'').step (fun b o hb' hbN e =>
      (k7.2 _ hb').trans ((k6.2 _ (Nat.ne_of_lt (Nat.lt_of_lt_of_le hbN hIN))).trans ((k5.2 _ hb').trans e)))).step fun _ _ _ _ e => e
end
end Mine
end

/-! part M1 -/
section
open PySem PySem.W PyProof.Rows PySem.Calls
namespace Mine
section
variable {prog : Program} {w : World} {A : Around} {E : Value → Shared → Prop} {s : Shared}
noncomputable abbrev noEnd : GenEnd := fun _ _ _ _ => False

/-- one item of a road that never ends -/
theorem next_road {a : Addr} {gn n : Nat} {gs : GenState} {Y : Protocol} {Q : Option Value → Shared → Prop} (hl : s.heap.NoLimit) (hroom : A.depth < recursionLimit)
    (hg : s.heap.IsGen a gn) (hgs : s.gens[gn]? = some gs)
    (hgo : gs.Goes (model prog w) A.in1 noEnd Y n (.send .none) (s.setGen gn .running))
    (hY : ∀ v s₁ gs', gs'.bare = true → Y (n - 1) (s.setGen gn .running) v s₁ (fun r' s'' => match n with
        | 0 => False
        | m + 1 => gs'.Goes (model prog w) A.in1 noEnd Y m r' s'') → Q (some v) (s₁.setGen gn gs')) :
    wpAny (model prog w) A (pyNext (.ref a)) Q E s := by
  unfold pyNext
  refine wpAny_bind (wpAny_attempt (wpAny_callSpecial?_slot (name := Str.ofString "__next__") hg.typeIs slot_gen_next
    (wpAny_call_entry slot_gen_next hg.typeIs entry_gen_next ?_ (args_gen_next _))))
  show wpAny _ A.in1 (Builtin.Generator.genWake (.ref a) (.send .none)) _ _ s
  unfold Builtin.Generator.genWake
  refine wpAny_bind (wpAny_holding (wpAny_genNumber hg (wpAny_bind (wpAny_genState hgs ?_))))
  cases gs with
  | running => exact hgo.elim
  | finished => exact hgo.elim
  | _ =>
    refine wpAny_bind (wpAny_roomToWake hl hroom ?_)
    show wpAny _ A.in1 (.resume gn (.send .none) [] _) _ _ s
    refine wpAny_resumeQ hgs hgo (fun x s₁ hx => hx.elim) (fun v s₁ gs' hb hv => ?_)
    exact wpAny_pure ⟨v, rfl, wpAny_pure (hY v s₁ gs' hb hv)⟩
end
end Mine
end

/-! part M2 -/
section
open PySem PySem.W PyProof.Rows PySem.Calls
namespace Mine
noncomputable abbrev looseV : List Str := looseW qv ["b3_exceptions"]
/-- the world behind the top, seen from a ground heap -/
structure Gd (w : World) (mean : ExcName → Option Value) (mg mb : Str → Option Value) (g : Heap) : Prop where
  K : (KW w.params).In g
  T : Top qv looseV mean mg mb g

theorem look21 (w : World) : (KW w.params).lookup 21 = some (fnO "_grouping_intervals" (pickA 2 rfl) (pickB 2 rfl) (pickS 2 rfl) md1 20) := by kernel_rfl
theorem code21 (w : World) : codeIn (KW w.params) (.ref 20) "_grouping_intervals" = true := by kernel_rfl
theorem name_charmax (w : World) : nsIn (KW w.params) mainGlobals "CHAR_MAX" = some (some (.int 127 189)) := by kernel_rfl

section
variable {w : World} {A : Around} {E : Value → Shared → Prop} {s : Shared} {g : Heap} {L l : Addr} {m : Str → Option Value} {news : List (Addr × Obj)} {mean : ExcName → Option Value} {mg mb : Str → Option Value}

theorem gen_call {Q : Value → Shared → Prop} (F : Fr g L s.heap m) (N : News g L s.heap news) (G : Gd w mean mg mb g) (hroom : A.depth < recursionLimit)
    (h : ∀ Lg h' tk, Fr g L h' m → News g L h' news → Fr g Lg h' (fun y => if y = "grouping" then some (.ref l) else none) → h'.IsGen (Lg + 1) s.gens.size → Lg = s.heap.objs.size → h'.objs.size = Lg + 2 →
      (∀ b o, s.heap.get? b = some o → h'.get? b = some o) →
      Q (.ref (Lg + 1)) { s with gens := s.gens.push (.fresh (.func giB (giEnv Lg 21 (.ref 20)))), heap := h', toks := tk }) :
    wpAny (model PW w) A (call (.ref 21) [.ref l]) Q E s := by
  have hK := (G.K.keeps F.keep) _ _ (look21 w)
  refine wpAny_call (codeAny_call_generator (body := giB) (by exact hroom) hK rfl rfl rfl rfl (codeRec_of (G.K.keeps F.keep) (code21 w)) ?_)
  refine wpAny_of_eq (a := [((Str.ofString "grouping" : Str), Value.ref l)]) (by rfl) ?_
  refine wpAny_newFunctionEnv (by decide) (locs rfl) (fun h₁ hn hs => ?_) rfl
  have hsz : h₁.objs.size = s.heap.objs.size + 1 := by rw [hs.1, Heap.size_push]
  have keep₁ : ∀ b o, s.heap.get? b = some o → h₁.get? b = some o := fun b o e => hs.extBut b o (Nat.ne_of_lt (Heap.lt_size e)) (Heap.get?_push_of_some _ e)
  have keep₂ : ∀ b o, s.heap.get? b = some o → (h₁.push { cls := .type "generator", data := .fields #[.int s.gens.size 0, .str (Str.ofString "_grouping_intervals") (s.toks + 1), .str (Str.ofString "_grouping_intervals") (s.toks + 1 + 1)] }).get? b = some o :=
    fun b o e => Heap.get?_push_of_some _ (keep₁ b o e)
  refine ⟨(G.T.nolimit.keeps F.keep).keeps keep₁, ?_⟩
  have hmap : (fun x : Str => ([((Str.ofString "grouping" : Str), Value.ref l)] : List (Str × Value)).reverse.lookup x) = fun y : Str => if y = Str.ofString "grouping" then some (Value.ref l) else none := by
    funext y
    by_cases hy : y = Str.ofString "grouping"
    · subst hy; simp
    · have : (y == Str.ofString "grouping") = false := by simpa using hy
      simp [List.lookup, this, hy]
  rw [hmap] at hn
  have hgen : (h₁.push { cls := .type "generator", data := .fields #[.int s.gens.size 0, .str (Str.ofString "_grouping_intervals") (s.toks + 1), .str (Str.ofString "_grouping_intervals") (s.toks + 1 + 1)] }).IsGen (s.heap.objs.size + 1) s.gens.size := by
    rw [← hsz]
    exact ⟨_, _, _, Heap.get?_push_size _ rfl, rfl, rfl, rfl⟩
  have := h s.heap.objs.size _ (s.toks + 1 + 1 + 1) (F.grownK keep₂) (fun p hp => ⟨keep₂ _ _ (N p hp).1, (N p hp).2.1, (N p hp).2.2⟩)
    ⟨hn.push _, fun b o e => keep₂ b o (F.keep b o e), Nat.le_of_lt (Nat.lt_of_le_of_lt F.above F.ns.lt)⟩ hgen rfl (by rw [Heap.size_push, hsz]) keep₂
  rw [← hsz] at this
  exact this
end
end Mine
end

/-! part M3 -/
section
open PySem PySem.W PyProof.Rows PySem.Calls
namespace Mine
section
variable {w : World} {A : Around} {E : Value → Shared → Prop} {s : Shared} {g : Heap} {L l : Addr} {m : Str → Option Value} {news : List (Addr × Obj)} {mean : ExcName → Option Value} {mg mb : Str → Option Value}
noncomputable abbrev mkS : Scope := pickS 11 rfl
noncomputable abbrev mkB : List Stmt := pickB 11 rfl
noncomputable abbrev mkEnv (L a : Addr) (cd : Value) : Env := envOf "_law_marks" mkS L a cd

theorem marks_loop {R : Result → Shared → Prop} {p1 p2 p3 p4 p5 p6 p7 p8 p9 p10 p11 p12 : Pos} {kk : Nat} {cd : Value} {fa : Addr} {Lg gn : Nat} {size held : Int} {J : Nat} {s0 : Shared} {td : Tok}
    (hroom : A.depth < recursionLimit) (hL : g.objs.size ≤ L) (hLL : L < Lg) (hlim : g.NoLimit)
    (hnews : ∀ p ∈ news, p.1 < Lg) (hJ1 : (J : Int) * size ≤ held) (hJ2 : held < ((J : Int) + 1) * size) (hs0 : 1 ≤ size)
    (hR : ∀ h tk G m' t, Fr g L h m' → News g L h news → AllBare G → m' "many" = some (.int J t) → R (.ok .next) { s0 with heap := h, toks := tk, gens := G }) :
    ∀ (r j : Nat) (h : Heap) (tk : Nat) (G : Array GenState) (gs : GenState) (m' : Str → Option Value) (t1 t2 : Tok), j + r = J + 1 → 1 ≤ r → Fr g L h m' → News g L h news → h.IsGen (Lg + 1) gn → G[gn]? = some gs → AllBare G →
      (∀ s'' : Shared, KeepsBut L h s''.heap → gs.Goes (model PW w) A.in1 noEnd (giY L Lg (Lg + 2) size) r (.send .none) s'') →
      m' "many" = some (.int ((j : Int) - 1) t1) → m' "mark" = some (.int ((j : Int) * size) t2) → m' "held" = some (.int held td) →
      codeAny (model PW w) A (.forLoop (.Name "told" p1) (.ref (Lg + 1)) [.AugAssign (.Name "many" p2) .Add (.Constant (.int 1) kk p3) p4, .AugAssign (.Name "mark" p5) .Add (.Name "told" p6) p7,
        .If (.Compare (.Name "mark" p8) [.Gt] [.Name "held" p9] p10) [.Break p11] [] p12] [] (mkEnv L fa cd)) R { s0 with heap := h, toks := tk, gens := G } := by
  intro r j h tk G gs m' t1 t2 hr h1 F N hgen hgs hb hgo hm1 hm2 hm3
  refine codeAny_forLoop_any (fun r s' => ∃ (j : Nat) (h : Heap) (tk : Nat) (G : Array GenState) (gs : GenState) (m' : Str → Option Value) (t1 t2 : Tok), s' = { s0 with heap := h, toks := tk, gens := G } ∧ j + r = J + 1 ∧ 1 ≤ r ∧ Fr g L h m' ∧ News g L h news ∧
      h.IsGen (Lg + 1) gn ∧ G[gn]? = some gs ∧ AllBare G ∧ (∀ s'' : Shared, KeepsBut L h s''.heap → gs.Goes (model PW w) A.in1 noEnd (giY L Lg (Lg + 2) size) r (.send .none) s'') ∧
      m' "many" = some (.int ((j : Int) - 1) t1) ∧ m' "mark" = some (.int ((j : Int) * size) t2) ∧ m' "held" = some (.int held td)) ?_ r ⟨j, h, tk, G, gs, m', t1, t2, rfl, hr, h1, F, N, hgen, hgs, hb, hgo, hm1, hm2, hm3⟩
  clear h1 F N hgen hgs hb hgo hm1 hm2 hm3 hr h tk G gs m' t1 t2 r j
  rintro r s' ⟨j, h, tk, G, gs, m', t1, t2, rfl, hr, h1, F, N, hgen, hgs, hb, hgo, hm1, hm2, hm3⟩
  refine next_road (n := r) (hlim.keeps F.keep) hroom hgen hgs (hgo _ fun _ _ _ e => e) (fun v s₁ gs' hb' hY => ?_)
  obtain ⟨⟨tkv, rfl⟩, ⟨h₁, tk₁, rfl, hk₁⟩, hkap⟩ := hY
  have F1 : Fr g L h₁ m' := ⟨F.ns.at' fun o e => hk₁ _ o (Nat.ne_of_lt hLL) (Nat.lt_of_lt_of_le hLL (Nat.le_add_right ..)) e,
    fun b o e => hk₁ b o (Nat.ne_of_lt (Nat.lt_of_lt_of_le (Heap.lt_size e) (Nat.le_of_lt (Nat.lt_of_le_of_lt hL hLL)))) (Nat.lt_of_lt_of_le (Heap.lt_size e) (Nat.le_trans (Nat.le_of_lt (Nat.lt_of_le_of_lt hL hLL)) (Nat.le_add_right ..))) (F.keep b o e), F.above⟩
  have N1 : News g L h₁ news := fun p hp => ⟨hk₁ _ _ (Nat.ne_of_lt (hnews p hp)) (Nat.lt_of_lt_of_le (hnews p hp) (Nat.le_add_right ..)) (N p hp).1, (N p hp).2.1, (N p hp).2.2⟩
  have hgen1 : h₁.IsGen (Lg + 1) gn := let ⟨o, nm, qn, ho, rr⟩ := hgen; ⟨o, nm, qn, hk₁ _ o (Nat.succ_ne_self Lg) (Nat.lt_succ_self _) ho, rr⟩
  have hsg : ((({ s0 with heap := h, toks := tk, gens := G } : Shared).setGen gn .running).gens)[gn]? = some .running := setGen_self (gs := gs) hgs
  dsimp only
  refine wpAny_of_eq (a := ()) (by rfl) ?_
  refine wpAny_assign_Name (stS F1 fun h₂ F2 k2 => ?_)
  have N2 := N1.set k2
  refine wpAny_execs_cons (wpAny_AugAssign_Name (ldn F2 hm1 (wpAny_Constant_int (iadd_int (stS F2 fun h₃ F3 k3 => ?_)))))
  have N3 := N2.set k3
  refine wpAny_execs_cons (wpAny_AugAssign_Name (ldn F3 hm2 (ld F3 rfl (iadd_int (stS F3 fun h₄ F4 k4 => ?_)))))
  have N4 := N3.set k4
  have kb : KeepsBut L h₁ h₄ := fun b o hb' e => (k4.2 b hb').trans ((k3.2 b hb').trans ((k2.2 b hb').trans e))
  have hAll : AllBare ((({ s0 with heap := h₁, gens := ({ s0 with heap := h, toks := tk, gens := G } : Shared).setGen gn .running |>.gens, toks := tk₁ } : Shared).setGen gn gs').gens) := by
    intro y hy
    obtain ⟨i, hi, rfl⟩ := Array.mem_iff_getElem.mp hy
    simp only [Shared.setGen] at hi ⊢
    rw [Array.getElem_setIfInBounds]
    · split
      · exact hb'
      · rw [Array.getElem_setIfInBounds]
        · split
          · rfl
          · exact hb _ (Array.getElem_mem _)
        · simpa using hi
    · simpa using hi
  refine wpAny_execs_cons (wpAny_If (wpAny_isTrue_Compare1 (ld F4 rfl (ld F4 hm3 (gt_int (wpAny_truthy_bool ?_))))))
  by_cases hlt : (j : Int) * size + size > held
  · rw [decide_eq_true hlt, if_pos rfl]
    have e1 : ((j : Int) + 1) * size = (j : Int) * size + size := by rw [Int.add_mul, Int.one_mul]
    have hj : j = J := by
      have : ¬ (j < J) := by
        intro hlt'
        have h2 : ((j : Int) + 1) * size ≤ (J : Int) * size := Int.mul_le_mul_of_nonneg_right (by omega) (by omega)
        omega
      omega
    subst hj
    refine wpAny_execs_cons (wpAny_Break ?_)
    exact hR h₄ _ _ _ _ F4 N4 hAll (show _ = some (Value.int (j : Int) _) from by
      show some (Value.int ((j : Int) - 1 + 1) _) = _
      rw [Int.sub_add_cancel])
  · rw [decide_eq_false hlt, if_neg Bool.false_ne_true]
    refine wpAny_execs_nil (wpAny_execs_nil ?_)
    have hj : j < J := by
      rcases Nat.lt_or_ge j J with hh | hh
      · exact hh
      · exfalso
        have h2 : ((J : Int) + 1) * size ≤ ((j : Int) + 1) * size := Int.mul_le_mul_of_nonneg_right (by omega) (by omega)
        have e1 : ((j : Int) + 1) * size = (j : Int) * size + size := by rw [Int.add_mul, Int.one_mul]
        omega
    obtain ⟨r', rfl⟩ : ∃ r', r = r' + 1 := ⟨r - 1, by omega⟩
    refine ⟨r', Nat.lt_succ_self _, j + 1, h₄, _, _, gs', _, ?t1, ?t2, rfl, by omega, by omega, F4, N4, ?_, ?_, hAll, ?_, ?m1, ?m2, hm3⟩
    case m1 => exact congrArg (fun x => some (Value.int x _)) (show ((j : Int) - 1 + 1) = (((j + 1 : Nat) : Int) - 1) by omega)
    case m2 => exact congrArg (fun x => some (Value.int x _)) (show (j : Int) * size + size = (((j + 1 : Nat) : Int)) * size by rw [Int.natCast_add, Int.add_mul]; simp)
    · exact let ⟨o, nm, qn, ho, rr⟩ := hgen1; ⟨o, nm, qn, kb _ o (Nat.ne_of_gt (Nat.lt_succ_of_lt hLL)) ho, rr⟩
    · exact setGen_self (gs := .running) hsg
    · exact fun s'' hk => hkap (by omega) s'' fun b o hbL e => hk b o hbL (kb b o hbL e)
end
end Mine
end

/-! part M4 -/
section
open PySem PySem.W PyProof.Rows PySem.Calls
namespace Mine
theorem look93 (w : World) : (KW w.params).lookup 93 = some (fnO "_law_marks" (pickA 11 rfl) (pickB 11 rfl) (pickS 11 rfl) md4 92) := by kernel_rfl
theorem code92 (w : World) : codeIn (KW w.params) (.ref 92) "_law_marks" = true := by kernel_rfl
theorem name_gi (w : World) : nsIn (KW w.params) mainGlobals "_grouping_intervals" = some (some (.ref 21)) := by kernel_rfl
theorem keep21 (w : World) : keepIn (KW w.params) (.ref 21) = true := by kernel_rfl

section
variable {w : World} {A A₀ : Around} {E : Value → Shared → Prop} {s : Shared} {h₀ base : Heap} {L : Addr} {m : Str → Option Value} {news : List (Addr × Obj)} {mean : ExcName → Option Value} {mg mb : Str → Option Value}
  {env : Env} {outer : List Env}

theorem Gd.keeps {g g' : Heap} (G : Gd w mean mg mb g) (h : ∀ b o, g.get? b = some o → g'.get? b = some o) : Gd w mean mg mb g' := ⟨G.K.keeps h, G.T.keeps h⟩

set_option pp.deepTerms true in
theorem marks_call {Q : Value → Shared → Prop} {size held : Int} {t1 t2 : Tok} (B : Below A₀ base outer h₀) (F : Fr h₀ L s.heap m) (N : News h₀ L s.heap news) (G : Gd w mean mg mb h₀)
    (hA : A.frames = some (env :: outer)) (hf : env.frame = some L) (hke : env.scope.kind = .function) (hroom : A.depth + 10 < recursionLimit) (hb : AllBare s.gens)
    (hs0 : 1 ≤ size) (hs1 : size ≠ 127) (hh : 0 ≤ held)
    (h : ∀ t h' tk' G', Fr h₀ L h' m → News h₀ L h' news → AllBare G' → Q (.int (held / size) t) { s with heap := h', toks := tk', gens := G' }) :
    wpAny (model PW w) A (call (.ref 93) [.int size t1, .int held t2]) Q E s := by
  refine wpAny_call ?_
  refine code_def (K := KW w.params) (name := "_law_marks") (qual := "_law_marks") (params := pickA 11 rfl) (body := pickB 11 rfl) (scope := pickS 11 rfl) B F G.K N G.T hA hf hke (look93 w) (code92 w) (by omega)
    (binds := [("size", .int size t1), ("held", .int held t2)]) (BindsTo.of_eq rfl) (locs rfl) (fun g L' h₁ FG F1 N1 B1 X1 T1 => ?_) rfl rfl rfl (by decide)
  refine wpAny_noRaise ?_
  have G1 : Gd w mean mg mb g := ⟨X1, T1⟩
  refine wpAny_execs_cons (wpAny_Assign_Name (wpAny_Constant_int (stN F1 N1 fun h2 F2 N2 => ?_)))
  refine wpAny_execs_cons (wpAny_Assign_Name (UnaryOp_ (wpAny_Constant_int (neg_int (stN F2 N2 fun h3 F3 N3 => ?_)))))
  refine wpAny_execs_cons (wpAny_For (Call_ (name_K F3 X1 (topRead_of T1) (name_gi w) (callWith_K X1 (keep21 w) (spliced_more (List_ (spliced_more (ld F3 rfl (spliced_more (wpAny_Constant_int
    (spliced_none (newList_N F3 N3 fun h4 F4 N4 => spliced_none ⟨X1.keeps F4.keep, ?_⟩))))))))))))
  have hl4 : h4.IsList h3.objs.size #[.int size t1, .int 0 _] := ⟨_, (N4 _ (List.mem_cons_self ..)).1, rfl, 0, rfl⟩
  have hlt : ∀ p ∈ (h3.objs.size, ({ cls := .type "list", data := .seq [Value.int size t1, .int 0 _].toArray } : Obj)) :: news, p.1 < h4.objs.size := fun p hp => Heap.lt_size (N4 p hp).1
  refine gen_call F4 N4 G1 (by rw [show (A.deeper _).depth = A.depth + 1 from rfl]; omega) fun Lg h5 tk5 F5 N5 FG5 hgen hLg hsz keep5 => ?_
  refine wpAny_pyIter_gen hgen ?_
  obtain ⟨J, hJ⟩ : ∃ J : Nat, (J : Int) = held / size := ⟨(held / size).toNat, Int.toNat_of_nonneg (Int.ediv_nonneg hh (by omega))⟩
  have hLL : L' < Lg := by rw [hLg]; exact F4.ns.lt
  have hl5 : h5.IsList h3.objs.size #[.int size t1, .int 0 _] := hl4.at fun o e => keep5 _ o e
  have hlg : h3.objs.size < Lg := by rw [hLg]; exact hlt _ (List.mem_cons_self ..)
  have hlL : h3.objs.size ≠ L' := (N4 _ (List.mem_cons_self ..)).2.1
  refine marks_loop (s0 := s) (J := J) (held := held) (by rw [show (A.deeper _).depth = A.depth + 1 from rfl]; omega) F1.above hLL T1.nolimit (fun p hp => by rw [hLg]; exact hlt p hp)
    (by rw [hJ]; exact Int.ediv_mul_le _ (by omega)) (by rw [hJ]; exact Int.lt_ediv_add_one_mul_self _ (by omega)) hs0 (fun h6 tk6 G6 m6 t6 F6 N6 hb6 hm6 => ?_)
    (J + 1) 0 h5 tk5 _ (.fresh (.func giB (giEnv Lg 21 (.ref 20)))) _ _ _ (by omega) (by omega) F5 N5 hgen (by simp) (hb.push rfl) (fun s'' hk => ⟨rfl, ?_⟩) rfl (congrArg (fun x => some (Value.int x _)) (show (0 : Int) = ((0 : Nat) : Int) * size by simp)) rfl
  · refine wpAny_execs_cons (wpAny_Return_some (ld F6 hm6 ?_))
    refine leaveK_ F6 (fun p hp => N6 p (List.mem_cons_of_mem _ hp)) fun kF kN => ?_
    rw [hJ]
    exact h _ _ _ _ kF kN hb6
  · refine gi_body X1 (topRead_of T1) (name_charmax w) F1.above (Nat.ne_of_gt hLL) (Nat.lt_succ_of_lt (Nat.lt_succ_of_lt hLL)) (Nat.lt_succ_of_lt (Nat.lt_succ_of_lt hlg)) hlL (Nat.ne_of_lt hlg) (by omega) hs1 (Nat.lt_succ_of_lt (Nat.lt_succ_self _)) J s'' ?_
      ⟨FG5.ns.at' fun o e => hk _ o (Nat.ne_of_gt hLL) e, fun b o e => hk b o (Nat.ne_of_lt (Nat.lt_of_lt_of_le (Heap.lt_size e) F1.above)) (FG5.keep b o e), FG5.above⟩ rfl (hl5.at fun o e => hk _ o hlL e)
    obtain ⟨o, nm, qn, ho, rr⟩ := hgen
    exact Heap.lt_size (hk _ o (Nat.ne_of_gt (Nat.lt_succ_of_lt hLL)) ho)
end
end Mine
end

/-! part M5 -/
section
open PySem PySem.W PyProof.Rows PySem.Calls PyProof.Rows.LCg
namespace Mine
section
variable {prog : Program} {w : World} {A : Around} {R : Result → Shared → Prop} {s : Shared}
theorem loop_any {elt target iter : PySem.Expr} {ifs : List PySem.Expr} {scope : Scope} {pos : Pos} {it acc : Value} {env : Env} (I : Nat → Shared → Prop)
    (turn : ∀ n s, I n s → wpAny (model prog w) A (pyNext it) (fun r s₁ => match r with
      | none => R (.ok .next) s₁
      | some v => wpAny (model prog w) A (letOwnedTupleGo target it v) (fun _ s₀ => wpAny (model prog w) A (assign target env v) (fun _ s₂ =>
          wpAny (model prog w) A (forIn ifs true fun c r => if r = true then do let ok ← isTrue c env (eval c env); pure (ForInStep.yield ok) else pure (ForInStep.yield r)) (fun ok s₃ =>
            if ok = true then wpAny (model prog w) A (eval elt env) (fun x s₄ =>
              wpAny (model prog w) A (call (.builtin "list.append") [acc, x]) (fun _ s₅ => ∃ m, m < n ∧ I m s₅) (notedBy (model prog w) A env fun e s' => R (.error e) s') s₄) (notedBy (model prog w) A env fun e s' => R (.error e) s') s₃
            else ∃ m, m < n ∧ I m s₃) (notedBy (model prog w) A env fun e s' => R (.error e) s') s₂) (notedBy (model prog w) A env fun e s' => R (.error e) s') s₀) (notedBy (model prog w) A env fun e s' => R (.error e) s') s₁) (notedBy (model prog w) A env fun e s' => R (.error e) s') s)
    (n : Nat) (h : I n s) :
    codeAny (model prog w) A (.compLoop (.ListComp elt [⟨target, iter, ifs, 0⟩] scope pos) 0 it acc env) R s := by
  refine codeAny_loop rfl I (fun n s hI => ?_) n h
  show wpAny _ A ((compTurn (.ListComp elt [⟨target, iter, ifs, 0⟩] scope pos) 0 it acc env).onRaise (fun x => do noteFrame x env; theTreesLotGoes x)) _ _ s
  refine wpAny_noted ?_
  rw [compTurn_list]
  refine wpAny_bind (wpAny_standAt (wpAny_bind (wpAny_mono (turn n s hI) (fun r s₁ h₁ => ?_) fun _ _ h' => h')))
  cases r with
  | none => exact wpAny_pure h₁
  | some v =>
    refine wpAny_bind (wpAny_mono h₁ (fun _ s₀ h₀ => ?_) fun _ _ h' => h')
    refine wpAny_bind (wpAny_mono h₀ (fun _ s₂ h₂ => wpAny_bind (wpAny_mono h₂ (fun ok s₃ h₃ => ?_) fun _ _ h' => h')) fun _ _ h' => h')
    cases ok with
    | false => exact wpAny_pure ⟨rfl, h₃⟩
    | true =>
      exact wpAny_bind (wpAny_bind (wpAny_mono h₃ (fun x s₄ h₄ => wpAny_bind (wpAny_mono h₄ (fun _ s₅ h₅ => wpAny_pure (wpAny_pure ⟨rfl, h₅⟩)) fun _ _ h' => h')) fun _ _ h' => h'))
end

section
variable {w : World} {A : Around} {E : Value → Shared → Prop} {s : Shared} {h₀ : Heap} {L : Addr} {m : Str → Option Value} {env : Env} {news : List (Addr × Obj)}

/-- off the block's own two objects -/
noncomputable def Off2 (C D : Addr) (l : List (Addr × Obj)) : Prop := ∀ p ∈ l, p.1 ≠ C ∧ p.1 ≠ D

/-- a turn's end: the state, the list, the ledger -/
noncomputable def Nxt (h₀ : Heap) (L : Addr) (m : Str → Option Value) (s : Shared) (C D : Addr) (old : List Value) (J : List Value → List (Addr × Obj) → Array GenState → Prop) (ys : List Value) (s' : Shared) : Prop :=
  ∃ h' tk G nw oC mC, s' = { s with heap := h', toks := tk, gens := G } ∧ Fr h₀ L h' m ∧ News h₀ L h' ((C, oC) :: (D, lst old) :: nw) ∧ NsObj oC mC ∧ Off2 C D nw ∧ J ys nw G

theorem comp_block {use : Option (Value → Sem Unit)} {elt target iter : PySem.Expr} {ifs : List PySem.Expr} {scope : Scope} {cl : List (Str × Addr)} {pos : Pos} {I : Addr} {n : Nat} {Q : Value → Shared → Prop}
    {J : Nat → List Value → List (Addr × Obj) → Array GenState → Prop} {Fin : List Value → List (Addr × Obj) → Array GenState → Prop}
    (hkind : scope.kind = .function) (hcell : ∀ y ∈ scope.names, y.2 ≠ .cell)
    (F : Fr h₀ L s.heap m) (N : News h₀ L s.heap news) (hJ : J n [] news s.gens)
    (self : ∀ (h : Heap) (tk : Nat) (E' : Value → Shared → Prop) (Q' : Value → Shared → Prop), News h₀ L h news → Q' (.ref I) { s with heap := h, toks := tk } → wpAny (model PW w) A (pyIter (.ref I)) Q' E' { s with heap := h, toks := tk })
    (turn : ∀ k ys nw G h tk C oC mC D, J (k + 1) ys nw G → Fr h₀ L h m → News h₀ L h ((C, oC) :: (D, lst ys) :: nw) → NsObj oC mC → Off2 C D nw → C ≠ D → ∀ E' : Value → Shared → Prop,
      wpAny (model PW w) A (pyNext (.ref I)) (fun r s₁ => ∃ v, r = some v ∧ wpAny (model PW w) A (letOwnedTupleGo target (.ref I) v) (fun _ s₀ => wpAny (model PW w) A (assign target (compEnvC scope cl C env) v) (fun _ s₂ =>
        wpAny (model PW w) A (forIn ifs true fun c r => if r = true then do let ok ← isTrue c (compEnvC scope cl C env) (eval c (compEnvC scope cl C env)); pure (ForInStep.yield ok) else pure (ForInStep.yield r)) (fun ok s₃ =>
          if ok = true then wpAny (model PW w) A (eval elt (compEnvC scope cl C env)) (fun y s₄ => ys.length ≤ sizeLine ∧ Nxt h₀ L m s C D ys (J k) (ys ++ [y]) s₄) E' s₃ else Nxt h₀ L m s C D ys (J k) ys s₃) E' s₂) E' s₀) E' s₁) E' { s with heap := h, toks := tk, gens := G })
    (fin : ∀ ys nw G h tk C oC mC D, J 0 ys nw G → Fr h₀ L h m → News h₀ L h ((C, oC) :: (D, lst ys) :: nw) → NsObj oC mC → Off2 C D nw → C ≠ D → ∀ E' : Value → Shared → Prop,
      wpAny (model PW w) A (pyNext (.ref I)) (fun r s₁ => r = none ∧ Nxt h₀ L m s C D ys Fin ys s₁) E' { s with heap := h, toks := tk, gens := G })
    (hQ : ∀ C oC mC D h tk G ys nw, Fin ys nw G → Fr h₀ L h m → News h₀ L h ((C, oC) :: (D, lst ys) :: nw) → NsObj oC mC → Off2 C D nw → C ≠ D → compPost (model PW w) A E use Q (.ref D) C (.ok .next) { s with heap := h, toks := tk, gens := G }) :
    wpAny (model PW w) A (newList []) (fun acc s₃ => wpAny (model PW w) A (newFunctionEnv scope env.globals cl [] env.qual none .none (some env)) (fun cenv s₄ =>
      codeAny (model PW w) A (.compStart (.ListComp elt [⟨target, iter, ifs, 0⟩] scope pos) 0 (.ref I) acc { cenv with scope := relabel scope env }) (compPost (model PW w) A E use Q acc cenv.locals) s₄) E s₃) E s := by
  refine wpAny_newObj_type (wpAny_newFunctionEnv hcell (by intro y hy; simp at hy) (fun h₁ hns₁ hsb₁ => ?_) hkind)
  dsimp only at hns₁ hsb₁ ⊢
  generalize hH2 : s.heap.push { cls := .type "list", dict := none, data := .seq ([] : List Value).toArray } = H2 at hns₁ hsb₁ ⊢
  have hC : H2.objs.size = s.heap.objs.size + 1 := by rw [← hH2, Heap.size_push]
  have hDC : s.heap.objs.size ≠ H2.objs.size := by rw [hC]; exact Nat.ne_of_lt (Nat.lt_succ_self _)
  have below : ∀ b, b < s.heap.objs.size → b ≠ H2.objs.size ∧ b ≠ s.heap.objs.size := fun b hb => ⟨by rw [hC]; exact Nat.ne_of_lt (Nat.lt_succ_of_lt hb), Nat.ne_of_lt hb⟩
  have old : ∀ b o, s.heap.get? b = some o → h₁.get? b = some o := fun b o e => hsb₁.extBut b o (below b (Heap.lt_size e)).1 (Heap.get?_push_of_some _ (hH2 ▸ Heap.get?_push_of_some _ e))
  have hacc : h₁.get? s.heap.objs.size = some (lst []) := hsb₁.extBut _ _ hDC (Heap.get?_push_of_some _ (hH2 ▸ Heap.get?_push_size _ rfl))
  have fresh₀ : ∀ a, s.heap.objs.size ≤ a → h₀.get? a = none := fun a ha => by
    cases e : h₀.get? a with
    | none => rfl
    | some o' => exact absurd (Heap.lt_size (F.keep a o' e)) (Nat.not_lt.mpr ha)
  have hD₀ : h₀.get? s.heap.objs.size = none := fresh₀ _ (Nat.le_refl _)
  have hC₀ : h₀.get? H2.objs.size = none := fresh₀ _ (by rw [hC]; exact Nat.le_succ _)
  have hLlt : L < s.heap.objs.size := F.ns.lt
  have hDL : s.heap.objs.size ≠ L := Ne.symm (below L hLlt).2
  have hCL : H2.objs.size ≠ L := Ne.symm (below L hLlt).1
  obtain ⟨oC, heC, hoC⟩ := ns_obj hns₁
  have F₁ : Fr h₀ L h₁ m := F.keeps old
  have N₁ : News h₀ L h₁ ((H2.objs.size, oC) :: (s.heap.objs.size, lst []) :: news) := fun p hp => by
    rcases List.mem_cons.mp hp with rfl | hp
    · exact ⟨heC, hCL, hC₀⟩
    · rcases List.mem_cons.mp hp with rfl | hp
      · exact ⟨hacc, hDL, hD₀⟩
      · exact ⟨old _ _ (N p hp).1, (N p hp).2⟩
  have off₁ : Off2 H2.objs.size s.heap.objs.size news := fun p hp => below _ (Heap.lt_size (N p hp).1)
  have loop : codeAny (model PW w) A (.compLoop (.ListComp elt [⟨target, iter, ifs, 0⟩] scope pos) 0 (.ref I) (.ref s.heap.objs.size) (compEnvC scope cl H2.objs.size env))
        (compPost (model PW w) A E use Q (.ref s.heap.objs.size) H2.objs.size) { s with heap := h₁, toks := s.toks + ([] : List (Str × Value)).length } := by
    refine loop_any (fun k s' => ∃ j h' tk G ys nw oC mC, s' = { s with heap := h', toks := tk, gens := G } ∧ k = j ∧ J j ys nw G ∧ Fr h₀ L h' m ∧ News h₀ L h' ((H2.objs.size, oC) :: (s.heap.objs.size, lst ys) :: nw) ∧ NsObj oC mC ∧ Off2 H2.objs.size s.heap.objs.size nw)
      ?_ n ⟨n, h₁, _, _, [], news, oC, _, rfl, rfl, hJ, F₁, N₁, hoC, off₁⟩
    rintro k s' ⟨j, h', tk, G, ys, nw, oC, mC, rfl, rfl, hj, F', N', hoC', off'⟩
    cases k with
    | zero =>
      refine wpAny_mono (fin ys nw G h' tk _ oC mC _ hj F' N' hoC' off' (Ne.symm hDC) _) (fun r s₁ hr => ?_) fun _ _ e => e
      obtain ⟨rfl, h2, tk2, G2, nw2, oC2, mC2, rfl, F2, N2, hoC2, off2, hf⟩ := hr
      exact hQ _ oC2 mC2 _ h2 _ _ ys nw2 hf F2 N2 hoC2 off2 (Ne.symm hDC)
    | succ k =>
      refine wpAny_mono (turn k ys nw G h' tk _ oC mC _ hj F' N' hoC' off' (Ne.symm hDC) _) (fun r s₁ hr => ?_) fun _ _ e => e
      obtain ⟨v, rfl, hv⟩ := hr
      refine wpAny_mono hv (fun _ s₀ h0 => wpAny_mono h0 (fun _ s₂ h2 => wpAny_mono h2 (fun ok s₃ h3 => ?_) fun _ _ e => e) fun _ _ e => e) fun _ _ e => e
      cases ok with
      | false =>
        simp only [Bool.false_eq_true, if_false] at h3 ⊢
        obtain ⟨h', tk, G, nw, oC, mC, rfl, F4, N4, hoC4, off4, hj4⟩ := h3
        exact ⟨k, Nat.lt_succ_self _, k, h', tk, G, ys, nw, oC, mC, rfl, rfl, hj4, F4, N4, hoC4, off4⟩
      | true =>
        simp only [if_true] at h3 ⊢
        refine wpAny_mono h3 (fun y s₄ h4 => ?_) fun _ _ e => e
        obtain ⟨hlen, h', tk, G, nw, oC, mC, rfl, F4, N4, hoC4, off4, hj4⟩ := h4
        have zC := N4 _ List.mem_cons_self
        have zD := N4 _ (List.mem_cons_of_mem _ List.mem_cons_self)
        refine append_at (hsz := by show ys.toArray.size ≤ sizeLine; rw [List.size_toArray]; exact hlen) zD.1 fun h₅ hs₅ hD₅ => ?_
        obtain ⟨oC5, heC5, hoC5⟩ := ns_obj ((hoC4.ns zC.1).sameBut hs₅ (Ne.symm hDC))
        refine ⟨k, Nat.lt_succ_self _, k, h₅, tk, G, ys ++ [y], nw, oC5, mC, rfl, rfl, hj4, F4.change hs₅ hDL hD₀, fun p hp => ?_, hoC5, off4⟩
        rcases List.mem_cons.mp hp with rfl | hp
        · exact ⟨heC5, hCL, hC₀⟩
        · rcases List.mem_cons.mp hp with rfl | hp
          · exact ⟨hD₅.trans (congrArg some (lst_snoc ys y)), hDL, hD₀⟩
          · exact ⟨hs₅.extBut _ _ (off4 p hp).2 (N4 p (List.mem_cons_of_mem _ (List.mem_cons_of_mem _ hp))).1, (N4 p (List.mem_cons_of_mem _ (List.mem_cons_of_mem _ hp))).2⟩
  exact codeAny_compStart_list loop (self h₁ _ _ _ (fun p hp => N₁ p (List.mem_cons_of_mem _ (List.mem_cons_of_mem _ hp))) loop)

/-- the end of a comprehension whose value goes on -/
theorem end_plain {C D : Addr} {oC : Obj} {mC : Str → Option Value} {ys : List Value} {Q : Value → Shared → Prop} (F : Fr h₀ L s.heap m) (N : News h₀ L s.heap ((C, oC) :: (D, lst ys) :: news)) (hoC : NsObj oC mC) (off : Off2 C D news) (hCD : C ≠ D)
    (h : ∀ h', Fr h₀ L h' m → News h₀ L h' ((D, lst ys) :: news) → Q (.ref D) { s with heap := h' }) : compPost (model PW w) A E none Q (.ref D) C (.ok .next) s := by
  have zC := N _ List.mem_cons_self
  refine ⟨mC, hoC.ns zC.1, fun h3 hs3 => ?_⟩
  refine h h3 (F.change hs3 zC.2.1 zC.2.2) (fun p hp => ?_)
  have z := N p (List.mem_cons_of_mem _ hp)
  refine ⟨hs3.extBut _ _ ?_ z.1, z.2⟩
  rcases List.mem_cons.mp hp with rfl | hp
  · exact Ne.symm hCD
  · exact (off p hp).1

/-- the end of a comprehension whose value is stored -/
theorem end_store {C D : Addr} {oC : Obj} {mC : Str → Option Value} {ys : List Value} {u : Value → Sem Unit} {Q : Value → Shared → Prop} (N : News h₀ L s.heap ((C, oC) :: (D, lst ys) :: news)) (hoC : NsObj oC mC)
    (h : wpAny (model PW w) A (u (.ref D)) (fun _ s' => ∃ m' nw', Fr h₀ L s'.heap m' ∧ News h₀ L s'.heap ((C, oC) :: nw') ∧ (∀ p ∈ nw', p.1 ≠ C) ∧ ∀ h', Fr h₀ L h' m' → News h₀ L h' nw' → Q .none { s' with heap := h' }) E s) : compPost (model PW w) A E (some u) Q (.ref D) C (.ok .next) s := by
  refine wpAny_mono h (fun _ s' h' => ?_) fun _ _ e => e
  obtain ⟨m', nw', F', N', off', hq⟩ := h'
  have zC := N' _ List.mem_cons_self
  refine ⟨mC, hoC.ns zC.1, fun h3 hs3 => hq h3 (F'.change hs3 zC.2.1 zC.2.2) fun p hp => ?_⟩
  have z := N' p (List.mem_cons_of_mem _ hp)
  exact ⟨hs3.extBut _ _ (off' p hp) z.1, z.2⟩
end
end Mine
end

/-! part M6 -/
section
open PySem PySem.W PyProof.Rows PySem.Calls PyProof.Rows.LCg
namespace Mine
/-- the list iterator's object -/
noncomputable def LI (o : Obj) (l : Addr) (i : Nat) : Prop := o.cls = .type "list_iterator" ∧ o.data = .fields #[.ref l, .int i 0]
/-- a list's object -/
noncomputable def LO (o : Obj) (vs : List Value) : Prop := o.cls = .type "list" ∧ ∃ n, o.data = .seq vs.toArray n
theorem LO.at {o : Obj} {vs : List Value} {h : Heap} {a : Addr} (x : LO o vs) (e : h.get? a = some o) : h.IsList a vs.toArray := ⟨o, e, x.1, x.2⟩
theorem LI.at {o : Obj} {l : Addr} {i : Nat} {h : Heap} {a : Addr} (x : LI o l i) (e : h.get? a = some o) : h.IsListIter a l i := ⟨o, e, x.1, x.2⟩
theorem LO.lst (vs : List Value) : LO (lst vs) vs := ⟨rfl, _, rfl⟩

section
variable {w : World} {A : Around} {E : Value → Shared → Prop} {s : Shared} {h₀ : Heap} {L : Addr} {m : Str → Option Value} {env : Env} {news : List (Addr × Obj)}

theorem LO.ne_LI {o o' : Obj} {vs : List Value} {l : Addr} {i : Nat} (x : LO o vs) (y : LI o' l i) : o ≠ o' := fun e => by
  have := x.1; rw [e, y.1] at this; exact absurd this (by decide)
theorem NsObj.ne_LI {o o' : Obj} {mm : Str → Option Value} {l : Addr} {i : Nat} (x : NsObj o mm) (y : LI o' l i) : o ≠ o' := fun e => by
  obtain ⟨es, ep, hd, _⟩ := x; rw [e, y.2] at hd; cases hd
theorem NsObj.ne_LO {o o' : Obj} {mm : Str → Option Value} {vs : List Value} (x : NsObj o mm) (y : LO o' vs) : o ≠ o' := fun e => by
  obtain ⟨es, ep, hd, _⟩ := x; obtain ⟨_, n, h⟩ := y; rw [e, h] at hd; cases hd

/-- the evaluation of a list comprehension -/
theorem comp_eval {elt target iter : PySem.Expr} {ifs : List PySem.Expr} {scope : Scope} {cl : List (Str × Addr)} {pos : Pos} {Q : Value → Shared → Prop}
    (hclos : closureFor scope env = pure cl) (hkind : scope.kind = .function) (hnames : ∀ y ∈ scope.names, y.2 = .local → scope.names.lookup y.1 = some .local)
    (h : wpAny (model PW w) A (eval iter env) (fun xv s₁ => wpAny (model PW w) A (pyIter xv) (fun it s₂ =>
      wpAny (model PW w) A (newList []) (fun acc s₃ => wpAny (model PW w) A (newFunctionEnv scope env.globals cl [] env.qual none .none (some env)) (fun cenv s₄ =>
        codeAny (model PW w) A (.compStart (.ListComp elt [⟨target, iter, ifs, 0⟩] scope pos) 0 it acc { cenv with scope := relabel scope env }) (compPost (model PW w) A E none Q acc cenv.locals) s₄) E s₃) E s₂) E s₁) E s)
    (hs : ∀ x, foldedSetIterable iter env x = pure x := by intro _; rfl) :
    wpAny (model PW w) A (eval (.ListComp elt [⟨target, iter, ifs, 0⟩] scope pos) env) Q E s := by
  rw [eval_ListComp]
  exact wpAny_comprehension_free (use := none) rfl hs hclos hkind hnames h

/-- a comprehension whose value is stored under a name -/
theorem comp_assign {elt target iter : PySem.Expr} {ifs : List PySem.Expr} {scope : Scope} {cl : List (Str × Addr)} {pos spos : Pos} {y : Str} {py : Pos} {Q : Flow → Shared → Prop}
    (hsw : swapsWith (.ListComp elt [⟨target, iter, ifs, 0⟩] scope pos) (some (.Name y py)) spos.line env = pure true)
    (hclos : closureFor scope env = pure cl) (hkind : scope.kind = .function) (hnames : ∀ y ∈ scope.names, y.2 = .local → scope.names.lookup y.1 = some .local)
    (h : wpAny (model PW w) A (eval iter env) (fun xv s₁ => wpAny (model PW w) A (pyIter xv) (fun it s₂ =>
      wpAny (model PW w) A (newList []) (fun acc s₃ => wpAny (model PW w) A (newFunctionEnv scope env.globals cl [] env.qual none .none (some env)) (fun cenv s₄ =>
        codeAny (model PW w) A (.compStart (.ListComp elt [⟨target, iter, ifs, 0⟩] scope pos) 0 it acc { cenv with scope := relabel scope env }) (compPost (model PW w) A E (some (assign (.Name y py) env)) (fun _ s' => Q .next s') acc cenv.locals) s₄) E s₃) E s₂) E s₁) E s)
    (hs : ∀ x, foldedSetIterable iter env x = pure x := by intro _; rfl) :
    wpAny (model PW w) A (exec (.Assign [.Name y py] (.ListComp elt [⟨target, iter, ifs, 0⟩] scope pos) spos) env) Q E s := by
  rw [exec_Assign_Name_used _ _ _ _ hsw]
  refine wpAny_bind (wpAny_standAt (wpAny_bind ?_))
  show wpAny _ A (do let _ ← comprehension (.ListComp elt [⟨target, iter, ifs, 0⟩] scope pos) scope env _ (newList []) false (eval iter env) (some (assign (.Name y py) env))) _ _ s
  exact wpAny_bind (wpAny_mono (wpAny_comprehension_free (use := some (assign (.Name y py) env)) (Q := fun _ s' => Q .next s') rfl hs hclos hkind hnames h) (fun _ s' hq => wpAny_pure (wpAny_pure hq)) fun _ _ e => e)

/-- the block's own store: a name of the block -/
theorem storeC {scope : Scope} {cl : List (Str × Addr)} {C : Addr} {x : Str} {v : Value} {oC : Obj} {mC : Str → Option Value} {Q : Unit → Shared → Prop} (hkind : scope.kind = .function) (hx : scope.names.lookup x = some .local)
    (F : Fr h₀ L s.heap m) (N : News h₀ L s.heap ((C, oC) :: news)) (hoC : NsObj oC mC) (off : ∀ p ∈ news, p.1 ≠ C)
    (h : ∀ h' oC', Fr h₀ L h' m → News h₀ L h' ((C, oC') :: news) → NsObj oC' (fun y => if y = x then some v else mC y) → Q () { s with heap := h', toks := s.toks + 1 }) :
    wpAny (model PW w) A (storeName (compEnvC scope cl C env) x v) Q E s := by
  have z := N _ List.mem_cons_self
  refine wpAny_storeName_local (lookup_relabel_local hx) (hoC.ns z.1) (fun h' hn hs => ?_) (by simp [compEnvC, relabel, hkind])
  obtain ⟨o', e, ho'⟩ := ns_obj hn
  exact h h' o' (F.change hs z.2.1 z.2.2) (N.setHead off hs e) ho'

/-- a name of the block is read -/
theorem ldC {scope : Scope} {cl : List (Str × Addr)} {C : Addr} {x : Str} {pos : Pos} {v : Value} {oC : Obj} {mC : Str → Option Value} {Q : Value → Shared → Prop} (hkind : scope.kind = .function) (hx : scope.names.lookup x = some .local)
    (N : News h₀ L s.heap ((C, oC) :: news)) (hoC : NsObj oC mC) (hv : mC x = some v) (h : Q v s) (hd : (x == ("__debug__" : Str)) = false := by decide) :
    wpAny (model PW w) A (eval (.Name x pos) (compEnvC scope cl C env)) Q E s :=
  wpAny_Name (wpAny_loadName_local (show (relabel scope env).kind = .function by simp [relabel, hkind]) (lookup_relabel_local hx) (hoC.ns (N _ List.mem_cons_self).1) hv h) hd

/-- over a list on the ledger, one name, no tests; the ledger stays -/
theorem comp_list {use : Option (Value → Sem Unit)} {elt iter : PySem.Expr} {x : Str} {px : Pos} {scope : Scope} {cl : List (Str × Addr)} {pos : Pos} {ax : Addr} {oA : Obj} {vs : List Value} {Q : Value → Shared → Prop} {V : Nat → List Value → Prop}
    (hh : A.handled = none) (hkind : scope.kind = .function) (hcell : ∀ y ∈ scope.names, y.2 ≠ .cell) (hx : scope.names.lookup x = some .local)
    (F : Fr h₀ L s.heap m) (N : News h₀ L s.heap news) (hA : (ax, oA) ∈ news) (hoA : LO oA vs) (hb : AllBare s.gens) (hsz : vs.length ≤ sizeLine) (hV0 : V 0 []) (hVl : ∀ i ys, V i ys → ys.length = i)
    (elt_ : ∀ i ys G h tk C oC mC own v, (hi : vs[i]? = some v) → V i ys → AllBare G → Fr h₀ L h m → News h₀ L h ((C, oC) :: (own ++ news)) → NsObj oC mC → mC x = some v → ∀ E' : Value → Shared → Prop,
      wpAny (model PW w) A (eval elt (compEnvC scope cl C env)) (fun y s₄ => ∃ h' tk' G', s₄ = { s with heap := h', toks := tk', gens := G' } ∧ Fr h₀ L h' m ∧ News h₀ L h' ((C, oC) :: (own ++ news)) ∧ AllBare G' ∧ V (i + 1) (ys ++ [y])) E'
        { s with heap := h, toks := tk, gens := G })
    (hQ : ∀ C oC mC D h tk G ys, V vs.length ys → AllBare G → Fr h₀ L h m → News h₀ L h ((C, oC) :: (D, lst ys) :: news) → NsObj oC mC → Off2 C D news → C ≠ D → compPost (model PW w) A E use Q (.ref D) C (.ok .next) { s with heap := h, toks := tk, gens := G }) :
    wpAny (model PW w) A (pyIter (.ref ax)) (fun it s₂ =>
      wpAny (model PW w) A (newList []) (fun acc s₃ => wpAny (model PW w) A (newFunctionEnv scope env.globals cl [] env.qual none .none (some env)) (fun cenv s₄ =>
        codeAny (model PW w) A (.compStart (.ListComp elt [⟨.Name x px, iter, [], 0⟩] scope pos) 0 it acc { cenv with scope := relabel scope env }) (compPost (model PW w) A E use Q acc cenv.locals) s₄) E s₃) E s₂) E s := by
  have hlA := hoA.at (N _ hA).1
  refine wpAny_pyIter_list hlA ?_
  have F2 := F.push { cls := .type "list_iterator", data := .fields #[.ref ax, .int 0 0] }
  have N2 := N.push F { cls := .type "list_iterator", data := .fields #[.ref ax, .int 0 0] }
  have offI : ∀ p ∈ news, p.1 ≠ s.heap.objs.size := fun p hp => Nat.ne_of_lt (Heap.lt_size (N p hp).1)
  refine comp_block (s := { s with heap := _ }) (n := vs.length) (J := fun k ys nw G => ∃ oI i, nw = (s.heap.objs.size, oI) :: news ∧ LI oI ax i ∧ i + k = vs.length ∧ V i ys ∧ AllBare G)
    (Fin := fun ys nw G => nw = news ∧ V vs.length ys ∧ AllBare G) hkind hcell F2 N2 ⟨_, 0, rfl, ⟨rfl, rfl⟩, Nat.zero_add _, hV0, hb⟩ (fun h tk E' Q' Nh hq => ?_) (fun k ys nw G h tk C oC mC D hJ F3 N3 hoC off hCD E' => ?_) (fun ys nw G h tk C oC mC D hJ F3 N3 hoC off hCD E' => ?_)
    (fun C oC mC D h tk G ys nw hfin F4 N4 hoC off hCD => ?_)
  · exact wpAny_pyIter_listiter (i := 0) ⟨_, (Nh _ List.mem_cons_self).1, rfl, rfl⟩ hq
  · obtain ⟨oI, i, rfl, hI, hik, hV, hG⟩ := hJ
    have zI := N3 _ (List.mem_cons_of_mem _ (List.mem_cons_of_mem _ List.mem_cons_self))
    have zA := N3 _ (List.mem_cons_of_mem _ (List.mem_cons_of_mem _ (List.mem_cons_of_mem _ hA)))
    have hi : i < vs.length := by omega
    have hIC := (off _ List.mem_cons_self)
    refine wpAny_pyNext_list_item (hI.at zI.1) (hoA.at zA.1) (x := vs[i]) (by simp [hi]) fun h5 hit5 hs5 => ⟨_, rfl, ?_⟩
    obtain ⟨oI5, eI5, cI5, dI5⟩ := hit5
    have F5 := F3.change hs5 zI.2.1 zI.2.2
    have N5 : News h₀ L h5 ((C, oC) :: ((D, lst ys) :: (s.heap.objs.size, oI5) :: news)) :=
      News.setAt (own := [(C, oC), (D, lst ys)]) N3 (by intro p hp; simp only [List.mem_cons, List.not_mem_nil, or_false] at hp; exact hp.elim (fun e => e ▸ Ne.symm hIC.1) (fun e => e ▸ Ne.symm hIC.2)) offI hs5 eI5
    show wpAny _ _ (pure ()) _ _ _
    refine wpAny_pure (wpAny_assign_Name (storeC hkind hx F5 N5 hoC (by
      intro p hp
      rcases List.mem_cons.mp hp with rfl | hp
      · exact Ne.symm hCD
      · rcases List.mem_cons.mp hp with rfl | hp
        · exact hIC.1
        · exact (off p (List.mem_cons_of_mem _ hp)).1) fun h6 oC6 F6 N6 hoC6 => ?_))
    refine wpAny_tests_nil ?_
    simp only [if_true]
    refine wpAny_mono (elt_ i ys G h6 _ C oC6 _ [(D, lst ys), (s.heap.objs.size, oI5)] vs[i] (by simp [hi]) hV hG F6 N6 hoC6 (by simp) E') (fun y s₄ h4 => ?_) fun _ _ e => e
    obtain ⟨h7, tk7, G7, rfl, F7, N7, hG7, hV7⟩ := h4
    refine ⟨by rw [hVl i ys hV]; omega, h7, tk7, G7, (s.heap.objs.size, oI5) :: news, oC6, _, rfl, F7, N7, hoC6, fun p hp => ?_, oI5, i + 1, rfl, ⟨cI5, dI5⟩, by omega, hV7, hG7⟩
    rcases List.mem_cons.mp hp with rfl | hp
    · exact hIC
    · exact off p (List.mem_cons_of_mem _ hp)
  · obtain ⟨oI, i, rfl, hI, hik, hV, hG⟩ := hJ
    have zI := N3 _ (List.mem_cons_of_mem _ (List.mem_cons_of_mem _ List.mem_cons_self))
    have zA := N3 _ (List.mem_cons_of_mem _ (List.mem_cons_of_mem _ (List.mem_cons_of_mem _ hA)))
    obtain rfl : i = vs.length := by omega
    have hIC := (off _ List.mem_cons_self)
    refine wpAny_pyNext_list_end hh (hI.at zI.1) (hoA.at zA.1) (by simp) fun h5 he5 => ⟨rfl, h5, tk, G, news, oC, mC, rfl, ?_, ?_, hoC, fun p hp => off p (List.mem_cons_of_mem _ hp), rfl, hV, hG⟩
    · exact ⟨F3.ns.at' fun o e => he5 _ o (Ne.symm zI.2.1) e, fun b o e => he5 b o (by rintro rfl; rw [zI.2.2] at e; cases e) (F3.keep b o e), F3.above⟩
    · intro p hp
      have q : p ∈ (C, oC) :: (D, lst ys) :: (s.heap.objs.size, oI) :: news := by
        rcases List.mem_cons.mp hp with rfl | hp
        · exact List.mem_cons_self
        · rcases List.mem_cons.mp hp with rfl | hp
          · exact List.mem_cons_of_mem _ List.mem_cons_self
          · exact List.mem_cons_of_mem _ (List.mem_cons_of_mem _ (List.mem_cons_of_mem _ hp))
      refine ⟨he5 _ _ ?_ (N3 p q).1, (N3 p q).2⟩
      rcases List.mem_cons.mp hp with rfl | hp
      · exact Ne.symm hIC.1
      · rcases List.mem_cons.mp hp with rfl | hp
        · exact Ne.symm hIC.2
        · exact offI p hp
  · obtain ⟨rfl, hV, hG⟩ := hfin
    exact hQ C oC mC D h tk G ys hV hG F4 N4 hoC off hCD
end
end Mine
end

/-! part M7 -/
section
open PySem PySem.W PyProof.Rows PySem.Calls PyProof.Rows.LCg
namespace Mine
noncomputable abbrev rI (x left : Int) : Obj := { cls := .type "range_iterator", dict := none, data := .fields #[rawInt x, rawInt left, rawInt 1], slots := #[] }
section
variable {w : World} {A : Around} {E : Value → Shared → Prop} {s : Shared} {h₀ : Heap} {L : Addr} {m : Str → Option Value} {env : Env} {news : List (Addr × Obj)}

/-- a turn's end -/
noncomputable def Stp (h₀ : Heap) (L : Addr) (s : Shared) (I : Addr) (oI : Obj) (J : (Str → Option Value) → List (Addr × Obj) → Array GenState → Prop) (s' : Shared) : Prop :=
  ∃ h' tk G m nw, s' = { s with heap := h', toks := tk, gens := G } ∧ Fr h₀ L h' m ∧ News h₀ L h' ((I, oI) :: nw) ∧ (∀ p ∈ nw, p.1 ≠ I) ∧ J m nw G

/-- for x in range(n) -/
theorem for_range {x : Str} {px : Pos} {body : List Stmt} {r : Addr} {n : Nat} {t u v : Tok} {R : Result → Shared → Prop} {J : Nat → (Str → Option Value) → List (Addr × Obj) → Array GenState → Prop}
    (hh : A.handled = none) (hL : env.locals = L) (hk : env.scope.kind = .function) (hx : env.kindOf x = some .local)
    (F : Fr h₀ L s.heap m) (N : News h₀ L s.heap news) (hr : IsRange s.heap r 0 n 1 t u v) (hn : n < 1000) (hJ : J 0 m news s.gens)
    (step : ∀ i m₁ nw G h tk I t', i < n → J i m₁ nw G → Fr h₀ L h (fun y => if y = x then some (.int (i : Int) t') else m₁ y) → News h₀ L h ((I, rI ((i : Int) + 1) ((n : Int) - (i : Int) - 1)) :: nw) → (∀ p ∈ nw, p.1 ≠ I) → ∀ E' : Value → Shared → Prop,
      wpAny (model PW w) A (execs body env) (fun f s₃ => match f with
        | .next | .cont => Stp h₀ L s I (rI ((i : Int) + 1) ((n : Int) - (i : Int) - 1)) (J (i + 1)) s₃
        | .brk => R (.ok .next) s₃
        | .ret v => R (.ok (.ret v)) s₃) E' { s with heap := h, toks := tk, gens := G })
    (hR : ∀ h tk G m₁ nw, J n m₁ nw G → Fr h₀ L h m₁ → News h₀ L h nw → R (.ok .next) { s with heap := h, toks := tk, gens := G }) :
    wpAny (model PW w) A (pyIter (.ref r)) (fun it s₂ => codeAny (model PW w) A (.forLoop (.Name x px) it body [] env) R s₂) E s := by
  subst hL
  have hsmall : Builtin.Range.small 0 (n : Int) 1 = true := small_one (by decide) (by decide) (by omega) (by omega)
  refine wpAny_pyIter_range hr hsmall ?_
  have hn' : Builtin.Range.rangeSize 0 (n : Int) 1 = (n : Int) := by rw [rangeSize_nat]; omega
  rw [hn']
  have F2 := F.push (rI 0 (n : Int))
  have N2 := N.push F (rI 0 (n : Int))
  have off2 : ∀ p ∈ news, p.1 ≠ s.heap.objs.size := fun p hp => Nat.ne_of_lt (Heap.lt_size (N p hp).1)
  refine codeAny_forLoop_any (fun k s' => ∃ i h tk G m₁ nw, s' = { s with heap := h, toks := tk, gens := G } ∧ i + k = n ∧ J i m₁ nw G ∧ Fr h₀ env.locals h m₁ ∧ News h₀ env.locals h ((s.heap.objs.size, rI (i : Int) ((n : Int) - (i : Int))) :: nw) ∧ (∀ p ∈ nw, p.1 ≠ s.heap.objs.size))
    ?_ n ⟨0, _, _, _, m, news, rfl, Nat.zero_add _, hJ, F2, by simpa using N2, off2⟩
  rintro k s' ⟨i, h, tk, G, m₁, nw, rfl, hik, hj, F3, N3, off3⟩
  have zI := N3 _ List.mem_cons_self
  rcases Nat.lt_or_ge i n with hlt | hge
  · refine wpAny_pyNext_range_item zI.1 (by omega) fun h₁ hit₁ hs₁ => ?_
    have F4 := F3.change hs₁ zI.2.1 zI.2.2
    have N4 := N3.setHead off3 hs₁ hit₁
    show wpAny _ _ (pure ()) _ _ _
    refine wpAny_pure (wpAny_assign_Name (wpAny_storeName_local hx F4.ns (fun h₂ hn₂ hs₂ => ?_) (by simp [hk])))
    refine wpAny_mono (step i m₁ nw G h₂ _ _ _ hlt hj (F4.set hn₂ hs₂) (N4.set hs₂) off3 _) (fun f s₃ h3 => ?_) fun _ _ e => e
    have go : Stp h₀ env.locals s s.heap.objs.size (rI ((i : Int) + 1) ((n : Int) - (i : Int) - 1)) (J (i + 1)) s₃ → ∃ m, m < k ∧ ∃ i h tk G m₁ nw, s₃ = { s with heap := h, toks := tk, gens := G } ∧ i + m = n ∧ J i m₁ nw G ∧ Fr h₀ env.locals h m₁ ∧ News h₀ env.locals h ((s.heap.objs.size, rI (i : Int) ((n : Int) - (i : Int))) :: nw) ∧ (∀ p ∈ nw, p.1 ≠ s.heap.objs.size) := by
      rintro ⟨h', tk, G, m, nw, rfl, F5, N5, off5, hj5⟩
      refine ⟨k - 1, by omega, i + 1, h', tk, G, m, nw, rfl, by omega, hj5, F5, ?_, off5⟩
      rw [show ((i + 1 : Nat) : Int) = (i : Int) + 1 from rfl, show (n : Int) - ((i : Int) + 1) = (n : Int) - (i : Int) - 1 by omega]
      exact N5
    cases f with
    | next => exact go h3
    | cont => exact go h3
    | brk => exact h3
    | ret v => exact h3
  · obtain rfl : i = n := by omega
    refine wpAny_pyNext_range_end hh zI.1 (by omega) fun h₁ he₁ => wpAny_execs_nil ?_
    refine hR h₁ tk G m₁ nw hj ⟨F3.ns.at' fun o e => he₁ _ o (Ne.symm zI.2.1) e, fun b o e => he₁ b o (by rintro rfl; rw [zI.2.2] at e; cases e) (F3.keep b o e), F3.above⟩ fun p hp => ?_
    exact ⟨he₁ _ _ (off3 p hp) (N3 p (List.mem_cons_of_mem _ hp)).1, (N3 p (List.mem_cons_of_mem _ hp)).2⟩
end
end Mine
end

/-! part M8 -/
section
open PySem PySem.W PyProof.Rows PySem.Calls PyProof.Rows.LCg
namespace Mine
theorem News.more1 {h₀ h : Heap} {L a : Addr} {o : Obj} {l : List (Addr × Obj)} (e : h.get? a = some o) (z : a ≠ L ∧ h₀.get? a = none) (N : News h₀ L h l) : News h₀ L h ((a, o) :: l) := fun p hp => by
  rcases List.mem_cons.mp hp with rfl | hp
  · exact ⟨e, z⟩
  · exact N p hp
noncomputable abbrev pairO (a b : Value) : Obj := { cls := .type "tuple", data := .seq #[a, b] }
noncomputable abbrev zipO (TI TO : Addr) (f0 : Value) : Obj := { cls := .type "zip", data := .fields #[f0, .bool false, .bool false, .ref TI, .ref TO], slots := #[] }
section
variable {w : World} {A : Around} {E : Value → Shared → Prop} {s : Shared} {h₀ : Heap} {L : Addr} {m : Str → Option Value} {env : Env} {news : List (Addr × Obj)}

/-- over zip(l1, l2), two names; the ledger stays -/
theorem comp_zip {use : Option (Value → Sem Unit)} {elt iter : PySem.Expr} {ifs : List PySem.Expr} {a b : Str} {pa pb tp : Pos} {kk : Nat} {scope : Scope} {cl : List (Str × Addr)} {pos : Pos} {l1 l2 : Addr} {o1 o2 : Obj} {vs1 vs2 : List Value} {Q : Value → Shared → Prop} {V : Nat → List Value → Prop}
    (hh : A.handled = none) (hkind : scope.kind = .function) (hcell : ∀ y ∈ scope.names, y.2 ≠ .cell) (hxa : scope.names.lookup a = some .local) (hxb : scope.names.lookup b = some .local)
    (F : Fr h₀ L s.heap m) (N : News h₀ L s.heap news) (hA1 : (l1, o1) ∈ news) (hoA1 : LO o1 vs1) (hA2 : (l2, o2) ∈ news) (hoA2 : LO o2 vs2) (hlen : vs1.length = vs2.length)
    (hsz : vs1.length ≤ sizeLine) (hV0 : V 0 []) (hVl : ∀ i ys, V i ys → ys.length ≤ i)
    (elt_ : ∀ i ys h tk C oC mC own v1 v2, vs1[i]? = some v1 → vs2[i]? = some v2 → V i ys → Fr h₀ L h m → News h₀ L h ((C, oC) :: (own ++ news)) → NsObj oC mC → mC b = some v2 → (a ≠ b → mC a = some v1) → ∀ E' : Value → Shared → Prop,
      wpAny (model PW w) A (forIn ifs true fun c r => if r = true then do let ok ← isTrue c (compEnvC scope cl C env) (eval c (compEnvC scope cl C env)); pure (ForInStep.yield ok) else pure (ForInStep.yield r)) (fun ok s₃ =>
        if ok = true then wpAny (model PW w) A (eval elt (compEnvC scope cl C env)) (fun y s₄ => ∃ h' tk', s₄ = { s with heap := h', toks := tk' } ∧ Fr h₀ L h' m ∧ News h₀ L h' ((C, oC) :: (own ++ news)) ∧ V (i + 1) (ys ++ [y])) E' s₃
        else ∃ h' tk', s₃ = { s with heap := h', toks := tk' } ∧ Fr h₀ L h' m ∧ News h₀ L h' ((C, oC) :: (own ++ news)) ∧ V (i + 1) ys) E' { s with heap := h, toks := tk })
    (hQ : ∀ C oC mC D h tk ys, V vs1.length ys → Fr h₀ L h m → News h₀ L h ((C, oC) :: (D, lst ys) :: news) → NsObj oC mC → Off2 C D news → C ≠ D → compPost (model PW w) A E use Q (.ref D) C (.ok .next) { s with heap := h, toks := tk }) :
    wpAny (model PW w) A (call (.type "zip") [.ref l1, .ref l2]) (fun xv s₁ => wpAny (model PW w) A (pyIter xv) (fun it s₂ =>
      wpAny (model PW w) A (newList []) (fun acc s₃ => wpAny (model PW w) A (newFunctionEnv scope env.globals cl [] env.qual none .none (some env)) (fun cenv s₄ =>
        codeAny (model PW w) A (.compStart (.ListComp elt [⟨.Tuple [.Name a pa, .Name b pb] kk tp, iter, ifs, 0⟩] scope pos) 0 it acc { cenv with scope := relabel scope env }) (compPost (model PW w) A E use Q acc cenv.locals) s₄) E s₃) E s₂) E s₁) E s := by
  have z1 := N _ hA1
  have z2 := N _ hA2
  have lt1 : l1 < s.heap.objs.size := Heap.lt_size z1.1
  have lt2 : l2 < s.heap.objs.size := Heap.lt_size z2.1
  refine call_zip_2 (hoA1.at z1.1) (hoA2.at z2.1) fun h1 hz hTI hTO hi1 hi2 hsz1 hk1 => ?_
  have offn : ∀ p ∈ news, ∀ j, p.1 ≠ s.heap.objs.size + j := fun p hp j => Nat.ne_of_lt (Nat.lt_of_lt_of_le (Heap.lt_size (N p hp).1) (Nat.le_add_right _ _))
  have hLlt : L < s.heap.objs.size := F.ns.lt
  have F1 : Fr h₀ L h1 m := F.keeps hk1
  have frs : ∀ j, s.heap.objs.size + j ≠ L ∧ h₀.get? (s.heap.objs.size + j) = none := fun j => ⟨Nat.ne_of_gt (Nat.lt_of_lt_of_le hLlt (Nat.le_add_right _ _)), by
    cases e : h₀.get? (s.heap.objs.size + j) with
    | none => rfl
    | some o => exact absurd (Heap.lt_size (F.keep _ o e)) (Nat.not_lt.mpr (Nat.le_add_right _ _))⟩
  obtain ⟨oi1, ei1, ci1, di1⟩ := hi1
  obtain ⟨oi2, ei2, ci2, di2⟩ := hi2
  generalize hB : s.heap.objs.size = B at hz hTI hTO ei1 ei2 hsz1 offn hLlt frs lt1 lt2
  replace lt1 := ltN lt1
  replace lt2 := ltN lt2
  have frs0 : B ≠ L ∧ h₀.get? B = none := frs 0
  have N1 : News h₀ L h1 ((B + 4, zipO (B + 2) (B + 3) .none) :: (B + 2, pairO (.ref B) (.ref (B + 1))) :: (B + 3, pairO .none .none) :: (B, oi1) :: (B + 1, oi2) :: news) :=
    News.more1 hz (frs 4) (News.more1 hTI (frs 2) (News.more1 hTO (frs 3) (News.more1 ei1 frs0 (News.more1 ei2 (frs 1) (N.keeps hk1)))))
  refine wpAny_pyIter_zip hz ?_
  have Ap : ZipApart (B + 4) (B + 2) (B + 3) B (B + 1) l1 l2 := by constructor <;> (refine neN ?_; omega)
  refine comp_block (s := { s with heap := h1 }) (n := vs1.length)
    (J := fun k ys nw G => G = s.gens ∧ ∃ x y oi1 oi2 i, nw = (B + 4, zipO (B + 2) (B + 3) .none) :: (B + 2, pairO (.ref B) (.ref (B + 1))) :: (B + 3, pairO x y) :: (B, oi1) :: (B + 1, oi2) :: news ∧ LI oi1 l1 i ∧ LI oi2 l2 i ∧ i + k = vs1.length ∧ V i ys)
    (Fin := fun ys nw G => G = s.gens ∧ nw = news ∧ V vs1.length ys) hkind hcell F1 N1 ⟨rfl, _, _, _, _, 0, rfl, ⟨ci1, di1⟩, ⟨ci2, di2⟩, Nat.zero_add _, hV0⟩
    (fun h tk E' Q' Nh hq => wpAny_pyIter_zip (Nh _ List.mem_cons_self).1 hq) (fun k ys nw G h tk C oC mC D hJ F3 N3 hoC off hCD E' => ?_) (fun ys nw G h tk C oC mC D hJ F3 N3 hoC off hCD E' => ?_)
    (fun C oC mC D h tk G ys nw hfin F4 N4 hoC off hCD => ?_)
  · obtain ⟨rfl, x0, y0, oj1, oj2, i, rfl, hI1, hI2, hik, hV⟩ := hJ
    have zC := N3 _ List.mem_cons_self
    have N3d := News.tail' N3
    have zD := N3d _ List.mem_cons_self
    have N3e := News.tail' N3d
    have zz := N3e _ List.mem_cons_self
    have N3f := News.tail' N3e
    have zTI := N3f _ List.mem_cons_self
    have N3g := News.tail' N3f
    have zTO := N3g _ List.mem_cons_self
    have N3h := News.tail' N3g
    have zi1 := N3h _ List.mem_cons_self
    have N3i := News.tail' N3h
    have zi2 := N3i _ List.mem_cons_self
    have N3j := News.tail' N3i
    have oz := off _ List.mem_cons_self
    have oTI := off _ (List.mem_cons_of_mem _ List.mem_cons_self)
    have oTO := off _ (List.mem_cons_of_mem _ (List.mem_cons_of_mem _ List.mem_cons_self))
    have oi1 := off _ (List.mem_cons_of_mem _ (List.mem_cons_of_mem _ (List.mem_cons_of_mem _ List.mem_cons_self)))
    have oi2 := off _ (List.mem_cons_of_mem _ (List.mem_cons_of_mem _ (List.mem_cons_of_mem _ (List.mem_cons_of_mem _ List.mem_cons_self))))
    have onews : ∀ p ∈ news, p.1 ≠ C ∧ p.1 ≠ D := fun p hp => off p (List.mem_cons_of_mem _ (List.mem_cons_of_mem _ (List.mem_cons_of_mem _ (List.mem_cons_of_mem _ (List.mem_cons_of_mem _ hp)))))
    have hi : i < vs1.length := by omega
    have hi' : i < vs2.length := by omega
    refine wpAny_pyNext_zip_item Ap zz.1 zTI.1 zTO.1 (hI1.at zi1.1) (hI2.at zi2.1) (hoA1.at (N3j _ hA1).1) (hoA2.at (N3j _ hA2).1) (x := vs1[i]) (y := vs2[i]) (by simp [hi]) (by simp [hi']) fun h5 hz5 hTO5 hI15 hI25 hT5 hsz5 hk5 => ⟨_, rfl, ?_⟩
    refine wpAny_letOwnedTupleGo_zip hz5 fun h6 hz6 hs6 => ?_
    have hzlt : B + 4 < h.objs.size := Heap.lt_size zz.1
    have hT6 : h6.IsTuple h.objs.size #[vs1[i], vs2[i]] := ⟨_, hs6.extBut _ _ (Nat.ne_of_gt hzlt) hT5, rfl, _, rfl⟩
    have hC6 : h6.Ns C mC := (hoC.ns zC.1).at' fun o e => hs6.extBut _ _ (Ne.symm oz.1) (hk5 _ _ (Ne.symm oz.1) (Ne.symm oTO.1) (Ne.symm oi1.1) (Ne.symm oi2.1) e)
    refine kcp_assign (env := compEnvC scope cl C env) hh hT6 (lookup_relabel_local hxa) (lookup_relabel_local hxb) (by simp [compEnvC, relabel, hkind]) hC6 fun h7 tk7 hn7 hk7 => ?_
    have hk6 : ∀ c o, c ≠ B + 4 → c ≠ B + 3 → c ≠ B → c ≠ B + 1 → c ≠ C → h.get? c = some o → h7.get? c = some o := fun c o c1 c2 c3 c4 c5 e => hk7 c o c5 (hs6.extBut _ _ c1 (hk5 c o c1 c2 c3 c4 e))
    obtain ⟨oC7, eC7, hoC7⟩ := ns_obj hn7
    obtain ⟨pj1, ej1, cj1, dj1⟩ := hI15
    obtain ⟨pj2, ej2, cj2, dj2⟩ := hI25
    have F7 : Fr h₀ L h7 m := ⟨F3.ns.at' fun o e => hk6 _ o (Ne.symm (frs 4).1) (Ne.symm (frs 3).1) (Ne.symm frs0.1) (Ne.symm (frs 1).1) (Ne.symm zC.2.1) e,
      fun c o e => hk6 c o (by rintro rfl; rw [(frs 4).2] at e; cases e) (by rintro rfl; rw [(frs 3).2] at e; cases e) (by rintro rfl; rw [frs0.2] at e; cases e) (by rintro rfl; rw [(frs 1).2] at e; cases e) (by rintro rfl; rw [zC.2.2] at e; cases e) (F3.keep c o e), F3.above⟩
    have N7 : News h₀ L h7 ((C, oC7) :: (D, lst ys) :: (B + 4, zipO (B + 2) (B + 3) .none) :: (B + 2, pairO (.ref B) (.ref (B + 1))) :: (B + 3, pairO vs1[i] vs2[i]) :: (B, pj1) :: (B + 1, pj2) :: news) := by
      refine News.more1 eC7 zC.2 (News.more1 ?_ zD.2 (News.more1 ?_ (frs 4) (News.more1 ?_ (frs 2) (News.more1 ?_ (frs 3) (News.more1 ?_ frs0 (News.more1 ?_ (frs 1) fun p hp => ⟨?_, (N3j p hp).2⟩))))))
      · exact hk6 _ _ (Ne.symm oz.2) (Ne.symm oTO.2) (Ne.symm oi1.2) (Ne.symm oi2.2) (Ne.symm hCD) zD.1
      · exact hk7 _ _ oz.1 hz6
      · exact hk6 _ _ (by refine neN ?_; omega) (by refine neN ?_; omega) (by refine neN ?_; omega) (by refine neN ?_; omega) oTI.1 zTI.1
      · exact hk7 _ _ oTO.1 (hs6.extBut _ _ (by refine neN ?_; omega) hTO5)
      · exact hk7 _ _ oi1.1 (hs6.extBut _ _ (by refine neN ?_; omega) ej1)
      · exact hk7 _ _ oi2.1 (hs6.extBut _ _ (by refine neN ?_; omega) ej2)
      · exact hk6 _ _ (offn p hp 4) (offn p hp 3) (offn p hp 0) (offn p hp 1) (onews p hp).1 (N3j p hp).1
    have offw : Off2 C D ((B + 4, zipO (B + 2) (B + 3) .none) :: (B + 2, pairO (.ref B) (.ref (B + 1))) :: (B + 3, pairO vs1[i] vs2[i]) :: (B, pj1) :: (B + 1, pj2) :: news) := by
      intro p hp
      simp only [List.mem_cons] at hp
      rcases hp with rfl | rfl | rfl | rfl | rfl | hp
      · exact oz
      · exact oTI
      · exact oTO
      · exact oi1
      · exact oi2
      · exact onews p hp
    refine wpAny_mono (elt_ i ys h7 tk7 C oC7 _ [(D, lst ys), (B + 4, zipO (B + 2) (B + 3) .none), (B + 2, pairO (.ref B) (.ref (B + 1))), (B + 3, pairO vs1[i] vs2[i]), (B, pj1), (B + 1, pj2)] vs1[i] vs2[i] (by simp [hi]) (by simp [hi']) hV F7 N7 hoC7 (by simp) (fun e => by simp [e]) E') (fun ok s₃ h3 => ?_) fun _ _ e => e
    cases ok with
    | false =>
      simp only [Bool.false_eq_true, if_false] at h3 ⊢
      obtain ⟨h8, tk8, rfl, F8, N8, hV8⟩ := h3
      exact ⟨h8, tk8, s.gens, _, oC7, _, rfl, F8, N8, hoC7, offw, rfl, _, _, pj1, pj2, i + 1, rfl, ⟨cj1, dj1⟩, ⟨cj2, dj2⟩, by omega, hV8⟩
    | true =>
      simp only [if_true] at h3 ⊢
      refine wpAny_mono h3 (fun y s₄ h4 => ?_) fun _ _ e => e
      obtain ⟨h8, tk8, rfl, F8, N8, hV8⟩ := h4
      exact ⟨by have := hVl i ys hV; omega, h8, tk8, s.gens, _, oC7, _, rfl, F8, N8, hoC7, offw, rfl, _, _, pj1, pj2, i + 1, rfl, ⟨cj1, dj1⟩, ⟨cj2, dj2⟩, by omega, hV8⟩
  · obtain ⟨rfl, x0, y0, oj1, oj2, i, rfl, hI1, hI2, hik, hV⟩ := hJ
    obtain rfl : i = vs1.length := by omega
    have zC := N3 _ List.mem_cons_self
    have N3d := News.tail' N3
    have zD := N3d _ List.mem_cons_self
    have N3e := News.tail' N3d
    have zz := N3e _ List.mem_cons_self
    have N3f := News.tail' N3e
    have zTI := N3f _ List.mem_cons_self
    have N3g := News.tail' N3f
    have zTO := N3g _ List.mem_cons_self
    have N3h := News.tail' N3g
    have zi1 := N3h _ List.mem_cons_self
    have N3i := News.tail' N3h
    have zi2 := N3i _ List.mem_cons_self
    have N3j := News.tail' N3i
    have oz := off _ List.mem_cons_self
    have oTO := off _ (List.mem_cons_of_mem _ (List.mem_cons_of_mem _ List.mem_cons_self))
    have oi1 := off _ (List.mem_cons_of_mem _ (List.mem_cons_of_mem _ (List.mem_cons_of_mem _ List.mem_cons_self)))
    have oi2 := off _ (List.mem_cons_of_mem _ (List.mem_cons_of_mem _ (List.mem_cons_of_mem _ (List.mem_cons_of_mem _ List.mem_cons_self))))
    have onews : ∀ p ∈ news, p.1 ≠ C ∧ p.1 ≠ D := fun p hp => off p (List.mem_cons_of_mem _ (List.mem_cons_of_mem _ (List.mem_cons_of_mem _ (List.mem_cons_of_mem _ (List.mem_cons_of_mem _ hp)))))
    refine wpAny_pyNext_zip_end hh Ap zz.1 zTI.1 zTO.1 (hI1.at zi1.1) (hI2.at zi2.1) (hoA1.at (N3j _ hA1).1) (hoA2.at (N3j _ hA2).1) (.inl (by simp)) fun h5 hk5 => ⟨rfl, h5, tk, s.gens, news, oC, mC, rfl, ?_, ?_, hoC, onews, rfl, rfl, hV⟩
    · exact ⟨F3.ns.at' fun o e => hk5 _ o (Ne.symm (frs 4).1) (Ne.symm (frs 3).1) (Ne.symm frs0.1) (Ne.symm (frs 1).1) e,
        fun c o e => hk5 c o (by rintro rfl; rw [(frs 4).2] at e; cases e) (by rintro rfl; rw [(frs 3).2] at e; cases e) (by rintro rfl; rw [frs0.2] at e; cases e) (by rintro rfl; rw [(frs 1).2] at e; cases e) (F3.keep c o e), F3.above⟩
    · refine News.more1 (hk5 _ _ (Ne.symm oz.1) (Ne.symm oTO.1) (Ne.symm oi1.1) (Ne.symm oi2.1) zC.1) zC.2 (News.more1 (hk5 _ _ (Ne.symm oz.2) (Ne.symm oTO.2) (Ne.symm oi1.2) (Ne.symm oi2.2) zD.1) zD.2 fun p hp => ⟨?_, (N3j p hp).2⟩)
      exact hk5 _ _ (offn p hp 4) (offn p hp 3) (offn p hp 0) (offn p hp 1) (N3j p hp).1
  · obtain ⟨rfl, rfl, hV⟩ := hfin
    exact hQ C oC mC D h tk ys hV F4 N4 hoC off hCD
end
end Mine
end

/-! part M9 -/
section
open PySem PySem.W PyProof.Rows PySem.Calls PyProof.Rows.LCg
namespace Mine
theorem ia_len {vs : List Value} {ns : List Int} (h : IntsAre vs ns) : vs.length = ns.length := by
  induction h with
  | nil => rfl
  | cons n t _ ih => rw [List.length_cons, List.length_cons, ih]
theorem ia_get {vs : List Value} {ns : List Int} (h : IntsAre vs ns) : ∀ {i : Nat} {v : Value}, vs[i]? = some v → ∃ a t, ns[i]? = some a ∧ v = .int a t := by
  induction h with
  | nil => intro i v e; simp at e
  | cons n t _ ih =>
    intro i v e
    cases i with
    | zero => simp at e; exact ⟨n, t, by simp, e.symm⟩
    | succ i => simp at e; simpa using ih e
theorem ia_snoc {vs : List Value} {ns : List Int} (h : IntsAre vs ns) (a : Int) (t : Tok) : IntsAre (vs ++ [.int a t]) (ns ++ [a]) := by
  induction h with
  | nil => exact .cons a t .nil
  | cons n u _ ih => exact .cons n u ih
theorem take_snoc {α : Type} {l : List α} {i : Nat} {a : α} (h : l[i]? = some a) : l.take (i + 1) = l.take i ++ [a] := by
  rw [List.take_succ, h]; rfl

section
variable {w : World} {A : Around} {E : Value → Shared → Prop} {s : Shared} {h₀ : Heap} {L : Addr} {m : Str → Option Value} {env : Env} {news : List (Addr × Obj)}

/-- ints from ints, a list on the ledger -/
theorem comp_map {use : Option (Value → Sem Unit)} {elt iter : PySem.Expr} {x : Str} {px : Pos} {scope : Scope} {cl : List (Str × Addr)} {pos : Pos} {ax : Addr} {oA : Obj} {vs : List Value} {ns : List Int} {Q : Value → Shared → Prop} (f : Int → Int)
    (hh : A.handled = none) (hkind : scope.kind = .function) (hcell : ∀ y ∈ scope.names, y.2 ≠ .cell) (hx : scope.names.lookup x = some .local)
    (F : Fr h₀ L s.heap m) (N : News h₀ L s.heap news) (hA : (ax, oA) ∈ news) (hoA : LO oA vs) (hi : IntsAre vs ns) (hb : AllBare s.gens) (hsz : ns.length ≤ 1000)
    (elt_ : ∀ a t G h tk C oC mC own, a ∈ ns → AllBare G → Fr h₀ L h m → News h₀ L h ((C, oC) :: (own ++ news)) → NsObj oC mC → mC x = some (.int a t) → ∀ E' : Value → Shared → Prop,
      wpAny (model PW w) A (eval elt (compEnvC scope cl C env)) (fun y s₄ => ∃ h' tk' G' t', y = .int (f a) t' ∧ s₄ = { s with heap := h', toks := tk', gens := G' } ∧ Fr h₀ L h' m ∧ News h₀ L h' ((C, oC) :: (own ++ news)) ∧ AllBare G') E'
        { s with heap := h, toks := tk, gens := G })
    (hQ : ∀ C oC mC D h tk G ys, IntsAre ys (ns.map f) → AllBare G → Fr h₀ L h m → News h₀ L h ((C, oC) :: (D, lst ys) :: news) → NsObj oC mC → Off2 C D news → C ≠ D → compPost (model PW w) A E use Q (.ref D) C (.ok .next) { s with heap := h, toks := tk, gens := G }) :
    wpAny (model PW w) A (pyIter (.ref ax)) (fun it s₂ =>
      wpAny (model PW w) A (newList []) (fun acc s₃ => wpAny (model PW w) A (newFunctionEnv scope env.globals cl [] env.qual none .none (some env)) (fun cenv s₄ =>
        codeAny (model PW w) A (.compStart (.ListComp elt [⟨.Name x px, iter, [], 0⟩] scope pos) 0 it acc { cenv with scope := relabel scope env }) (compPost (model PW w) A E use Q acc cenv.locals) s₄) E s₃) E s₂) E s := by
  have hl := ia_len hi
  refine comp_list (V := fun i ys => IntsAre ys ((ns.map f).take i) ∧ i ≤ ns.length) hh hkind hcell hx F N hA hoA hb (by rw [hl, sizeLine_eq]; omega) ⟨.nil, Nat.zero_le _⟩ (fun i ys hv => by rw [ia_len hv.1]; have := hv.2; simp; omega) (fun i ys G h tk C oC mC own v hiv hV hG F3 N3 hoC hm E' => ?_)
    (fun C oC mC D h tk G ys hV hG F3 N3 hoC off hCD => hQ C oC mC D h tk G ys (by have := hV.1; rw [hl] at this; rwa [List.take_of_length_le (by simp)] at this) hG F3 N3 hoC off hCD)
  obtain ⟨a, t, ha, rfl⟩ := ia_get hi hiv
  refine wpAny_mono (elt_ a t G h tk C oC mC own (List.mem_of_getElem? ha) hG F3 N3 hoC hm E') (fun y s₄ h4 => ?_) fun _ _ e => e
  obtain ⟨h', tk', G', t', rfl, rfl, F4, N4, hG4⟩ := h4
  refine ⟨h', tk', G', rfl, F4, N4, hG4, ?_, ?_⟩
  · rw [take_snoc (a := f a) (by rw [List.getElem?_map, ha]; rfl)]
    exact ia_snoc hV.1 _ _
  · have := (List.getElem?_eq_some_iff.mp ha).1
    omega

/-- ints from pairs of ints, zip of two lists on the ledger, no tests -/
theorem comp_zipMap {use : Option (Value → Sem Unit)} {elt iter : PySem.Expr} {a b : Str} {pa pb tp : Pos} {kk : Nat} {scope : Scope} {cl : List (Str × Addr)} {pos : Pos} {l1 l2 : Addr} {o1 o2 : Obj} {vs1 vs2 : List Value} {ns1 ns2 : List Int} {Q : Value → Shared → Prop} (f : Int → Int → Int)
    (hh : A.handled = none) (hkind : scope.kind = .function) (hcell : ∀ y ∈ scope.names, y.2 ≠ .cell) (hxa : scope.names.lookup a = some .local) (hxb : scope.names.lookup b = some .local) (hab : a ≠ b)
    (F : Fr h₀ L s.heap m) (N : News h₀ L s.heap news) (hA1 : (l1, o1) ∈ news) (hoA1 : LO o1 vs1) (hi1 : IntsAre vs1 ns1) (hA2 : (l2, o2) ∈ news) (hoA2 : LO o2 vs2) (hi2 : IntsAre vs2 ns2) (hlen : ns1.length = ns2.length) (hsz : ns1.length ≤ 1000)
    (elt_ : ∀ x y t u h tk C oC mC own, (x, y) ∈ ns1.zip ns2 → Fr h₀ L h m → News h₀ L h ((C, oC) :: (own ++ news)) → NsObj oC mC → mC a = some (.int x t) → mC b = some (.int y u) → ∀ E' : Value → Shared → Prop,
      wpAny (model PW w) A (eval elt (compEnvC scope cl C env)) (fun r s₄ => ∃ h' tk' t', r = .int (f x y) t' ∧ s₄ = { s with heap := h', toks := tk' } ∧ Fr h₀ L h' m ∧ News h₀ L h' ((C, oC) :: (own ++ news))) E' { s with heap := h, toks := tk })
    (hQ : ∀ C oC mC D h tk ys, IntsAre ys (List.zipWith f ns1 ns2) → Fr h₀ L h m → News h₀ L h ((C, oC) :: (D, lst ys) :: news) → NsObj oC mC → Off2 C D news → C ≠ D → compPost (model PW w) A E use Q (.ref D) C (.ok .next) { s with heap := h, toks := tk }) :
    wpAny (model PW w) A (call (.type "zip") [.ref l1, .ref l2]) (fun xv s₁ => wpAny (model PW w) A (pyIter xv) (fun it s₂ =>
      wpAny (model PW w) A (newList []) (fun acc s₃ => wpAny (model PW w) A (newFunctionEnv scope env.globals cl [] env.qual none .none (some env)) (fun cenv s₄ =>
        codeAny (model PW w) A (.compStart (.ListComp elt [⟨.Tuple [.Name a pa, .Name b pb] kk tp, iter, [], 0⟩] scope pos) 0 it acc { cenv with scope := relabel scope env }) (compPost (model PW w) A E use Q acc cenv.locals) s₄) E s₃) E s₂) E s₁) E s := by
  have hl1 := ia_len hi1
  have hl2 := ia_len hi2
  refine comp_zip (V := fun i ys => IntsAre ys ((List.zipWith f ns1 ns2).take i) ∧ i ≤ ns1.length) hh hkind hcell hxa hxb F N hA1 hoA1 hA2 hoA2 (by omega) (by rw [hl1, sizeLine_eq]; omega) ⟨.nil, Nat.zero_le _⟩ (fun i ys hv => by rw [ia_len hv.1]; simp; omega)
    (fun i ys h tk C oC mC own v1 v2 hv1 hv2 hV F3 N3 hoC hmb hma E' => ?_)
    (fun C oC mC D h tk ys hV F3 N3 hoC off hCD => hQ C oC mC D h tk ys (by have := hV.1; rw [hl1] at this; rwa [List.take_of_length_le (by simp; omega)] at this) F3 N3 hoC off hCD)
  obtain ⟨x, t, hx, rfl⟩ := ia_get hi1 hv1
  obtain ⟨y, u, hy, rfl⟩ := ia_get hi2 hv2
  refine wpAny_tests_nil ?_
  simp only [if_true]
  have hz : (ns1.zip ns2)[i]? = some (x, y) := by rw [List.getElem?_zip_eq_some]; exact ⟨hx, hy⟩
  refine wpAny_mono (elt_ x y t u h tk C oC mC own (List.mem_of_getElem? hz) F3 N3 hoC (hma hab) hmb E') (fun r s₄ h4 => ?_) fun _ _ e => e
  obtain ⟨h', tk', t', rfl, rfl, F4, N4⟩ := h4
  refine ⟨h', tk', rfl, F4, N4, ?_, ?_⟩
  · rw [take_snoc (a := f x y) (by rw [List.getElem?_zipWith, hx, hy])]
    exact ia_snoc hV.1 _ _
  · have := (List.getElem?_eq_some_iff.mp hx).1
    omega
end
end Mine
end

/-! part M10 -/
section
open PySem PySem.W PyProof.Rows PySem.Calls PyProof.Rows.LCg
namespace Mine
/-- the greatest of a list -/
noncomputable def maxI : List Int → Int
  | [] => 0
  | [a] => a
  | a :: b :: r => let x := maxI (b :: r); if x > a then x else a
noncomputable def minI : List Int → Int
  | [] => 0
  | [a] => a
  | a :: b :: r => let x := minI (b :: r); if x < a then x else a
theorem maxI_mem : ∀ (l : List Int), l ≠ [] → maxI l ∈ l ∧ ∀ a ∈ l, a ≤ maxI l
  | [], h => absurd rfl h
  | [a], _ => ⟨List.mem_singleton.mpr rfl, fun b hb => by rw [List.mem_singleton.mp hb]; exact Int.le_refl _⟩
  | a :: b :: r, _ => by
    have ih := maxI_mem (b :: r) (by simp)
    rw [maxI]

    split
    · rename_i h
      refine ⟨List.mem_cons_of_mem _ ih.1, fun c hc => ?_⟩
      rcases List.mem_cons.mp hc with rfl | hc
      · omega
      · exact ih.2 c hc
    · rename_i h
      refine ⟨List.mem_cons_self, fun c hc => ?_⟩
      rcases List.mem_cons.mp hc with rfl | hc
      · exact Int.le_refl _
      · have := ih.2 c hc
        omega
theorem minI_mem : ∀ (l : List Int), l ≠ [] → minI l ∈ l ∧ ∀ a ∈ l, minI l ≤ a
  | [], h => absurd rfl h
  | [a], _ => ⟨List.mem_singleton.mpr rfl, fun b hb => by rw [List.mem_singleton.mp hb]; exact Int.le_refl _⟩
  | a :: b :: r, _ => by
    have ih := minI_mem (b :: r) (by simp)
    rw [minI]

    split
    · rename_i h
      refine ⟨List.mem_cons_of_mem _ ih.1, fun c hc => ?_⟩
      rcases List.mem_cons.mp hc with rfl | hc
      · omega
      · exact ih.2 c hc
    · rename_i h
      refine ⟨List.mem_cons_self, fun c hc => ?_⟩
      rcases List.mem_cons.mp hc with rfl | hc
      · exact Int.le_refl _
      · have := ih.2 c hc
        omega
theorem ne_of_len {l : List Int} (h : 0 < l.length) : l ≠ [] := by rintro rfl; exact absurd h (Nat.lt_irrefl _)

section
variable {w : World} {A : Around} {E : Value → Shared → Prop} {s : Shared} {h₀ : Heap} {L : Addr} {m : Str → Option Value} {env : Env} {news : List (Addr × Obj)}
theorem max_N {l : Addr} {o : Obj} {vs : List Value} {ns : List Int} {Q : Value → Shared → Prop} (hh : A.handled = none) (F : Fr h₀ L s.heap m) (N : News h₀ L s.heap news)
    (hl : (l, o) ∈ news) (ho : LO o vs) (hi : IntsAre vs ns) (hne : 0 < ns.length)
    (h : ∀ h' (t : Tok) tk, Fr h₀ L h' m → News h₀ L h' news → Q (.int (maxI ns) t) { s with heap := h', toks := tk }) :
    wpAny (model PW w) A (call (.builtin "max") [.ref l]) Q E s :=
  max_list_N hh F N (ho.at (N _ hl).1) hi hne fun h' M t tk F' N' hM hA => by
    have e := maxI_mem ns (ne_of_len hne)
    have : M = maxI ns := Int.le_antisymm (e.2 M hM) (hA _ e.1)
    rw [this]; exact h h' t tk F' N'
theorem min_N {l : Addr} {o : Obj} {vs : List Value} {ns : List Int} {Q : Value → Shared → Prop} (hh : A.handled = none) (F : Fr h₀ L s.heap m) (N : News h₀ L s.heap news)
    (hl : (l, o) ∈ news) (ho : LO o vs) (hi : IntsAre vs ns) (hne : 0 < ns.length)
    (h : ∀ h' (t : Tok) tk, Fr h₀ L h' m → News h₀ L h' news → Q (.int (minI ns) t) { s with heap := h', toks := tk }) :
    wpAny (model PW w) A (call (.builtin "min") [.ref l]) Q E s :=
  min_list_N hh F N (ho.at (N _ hl).1) hi hne fun h' M t tk F' N' hM hA => by
    have e := minI_mem ns (ne_of_len hne)
    have : M = minI ns := Int.le_antisymm (hA _ e.1) (e.2 M hM)
    rw [this]; exact h h' t tk F' N'
theorem sum_N {l : Addr} {o : Obj} {vs : List Value} {ns : List Int} {Q : Value → Shared → Prop} (hh : A.handled = none) (F : Fr h₀ L s.heap m) (N : News h₀ L s.heap news)
    (hl : (l, o) ∈ news) (ho : LO o vs) (hi : IntsAre vs ns)
    (h : ∀ h' (t : Tok) tk, Fr h₀ L h' m → News h₀ L h' news → Q (.int ns.sum t) { s with heap := h', toks := tk }) :
    wpAny (model PW w) A (call (.builtin "sum") [.ref l]) Q E s := by
  obtain ⟨xs, e⟩ := hi.allInts.items
  have hns : ns = xs.toList.map (·.1) := by
    rw [← hi.numsOf, ← nums_intItems, ← e]
  have hl' := ho.at (N _ hl).1
  rw [e] at hl'
  refine sum_intListG hh hl' fun h' tk t' hk => ?_
  have := h h' t' tk (F.grownK hk) (N.grown hk)
  rw [preSum_eq, List.take_of_length_le (by simp), ← hns]
  exact this

/-- an item of a list of ints on the ledger -/
theorem item_N {value slice : PySem.Expr} {l : Addr} {o : Obj} {vs : List Value} {ns : List Int} {k : Nat} {u : Tok} {a : Int} {Q : Value → Shared → Prop} (N : News h₀ L s.heap news)
    (hl : (l, o) ∈ news) (ho : LO o vs) (hi : IntsAre vs ns) (hk : k < 1000) (ha : ns[k]? = some a) (h : ∀ t, Q (.int a t) s)
    (hs : subscripted slice false (.ref l) (.int (k : Int) u) = operate [.ref l, .int (k : Int) u] (getItem (.ref l) (.int (k : Int) u)) := by with_unfolding_all rfl) (hg : ∀ r, letTemporaryGo value (.ref l) r = pure () := by intro _; with_unfolding_all rfl) :
    wpAny (model PW w) A (subscriptTail value slice (.ref l) (.int (k : Int) u)) Q E s := by
  have hlt : k < vs.length := by rw [ia_len hi]; exact (List.getElem?_eq_some_iff.mp ha).1
  obtain ⟨a', t, ha', e⟩ := ia_get hi (List.getElem?_eq_getElem hlt)
  rw [ha] at ha'; cases ha'
  exact item_list (ho.at (N _ hl).1) (by omega) (by omega) (x := .int a t) (by simp [hlt, e]) (h t) hs hg
theorem getItem_N {l : Addr} {o : Obj} {vs : List Value} {ns : List Int} {k : Nat} {u : Tok} {a : Int} {Q : Value → Shared → Prop} (N : News h₀ L s.heap news)
    (hl : (l, o) ∈ news) (ho : LO o vs) (hi : IntsAre vs ns) (hk : k < 1000) (ha : ns[k]? = some a) (h : ∀ t, Q (.int a t) s) :
    wpAny (model PW w) A (getItem (.ref l) (.int (k : Int) u)) Q E s := by
  have hlt : k < vs.length := by rw [ia_len hi]; exact (List.getElem?_eq_some_iff.mp ha).1
  obtain ⟨a', t, ha', e⟩ := ia_get hi (List.getElem?_eq_getElem hlt)
  rw [ha] at ha'; cases ha'
  exact wpAny_getItem_list (ho.at (N _ hl).1) (by omega) (by omega) (x := .int a t) (by simp [hlt, e]) (h t)
theorem lst_set (ys : List Value) (k : Nat) (v : Value) (hk : k < ys.length) : ({ cls := .type "list", data := .seq (ys.toArray.setIfInBounds k v) ys.length } : Obj) = lst (ys.set k v) := by
  show ({ cls := .type "list", data := .seq (ys.toArray.setIfInBounds k v) ys.length } : Obj) = { cls := .type "list", data := .seq (ys.set k v).toArray (ys.set k v).length }
  rw [List.length_set, List.setIfInBounds_toArray]
/-- a place of a list on the ledger is set -/
theorem setItem_N {D : Addr} {ys : List Value} {own rest : List (Addr × Obj)} {k : Nat} {t : Tok} {v : Value} {Q : Unit → Shared → Prop} (F : Fr h₀ L s.heap m) (N : News h₀ L s.heap (own ++ (D, lst ys) :: rest)) (h1 : ∀ p ∈ own, p.1 ≠ D) (h2 : ∀ p ∈ rest, p.1 ≠ D)
    (hk : k < ys.length) (hk' : k < 1000) (h : ∀ h', Fr h₀ L h' m → News h₀ L h' (own ++ (D, lst (ys.set k v)) :: rest) → Q () { s with heap := h' }) :
    wpAny (model PW w) A (setItem (.ref D) (.int (k : Int) t) v) Q E s := by
  have z := N (D, lst ys) (List.mem_append_right _ List.mem_cons_self)
  refine ki_setAt (items := ys.toArray) (n := ys.length) z.1 (by omega) (by omega) (by simpa using hk) ?_
  have hs : Heap.SameBut D s.heap (s.heap.update D (Obj.mapSeq (·.setIfInBounds ((k : Int).toNat) v))) := Heap.SameBut.update ..
  refine h _ (F.change hs z.2.1 z.2.2) (News.setAt N h1 h2 hs ?_)
  have q := PySem.IsL.update (n := ys.length) (items := ys.toArray) z.1 (·.setIfInBounds ((k : Int).toNat) v)
  refine Eq.trans q ?_
  rw [if_pos (by simp)]
  rw [Int.toNat_natCast]
  exact congrArg some (lst_set ys k v hk)
theorem ia_set {vs : List Value} {ns : List Int} (h : IntsAre vs ns) (k : Nat) (a : Int) (t : Tok) : IntsAre (vs.set k (.int a t)) (ns.set k a) := by
  induction h generalizing k with
  | nil => exact .nil
  | cons n u hr ih =>
    cases k with
    | zero => exact .cons a t hr
    | succ k => exact .cons n u (ih k)
theorem mulOk {a b : Int} (h0 : 0 ≤ b) (h1 : b < 2 ^ 60) : IntMulOk a b := IntMulOk.of_right (PySem.intBits_le_64 (by omega) (by omega))
end
end Mine
end

/-! part M11 -/
section
open PySem PySem.W PyProof.Rows PySem.Calls PyProof.Rows.LCg
namespace Mine
@[irreducible] noncomputable def dStep (hs : List Int) (n size : Int) : Int :=
  if (hs.map fun own => own / size).sum < n then maxI (List.zipWith (fun own many => own.fdiv (many + 1)) hs (hs.map fun own => own / size)) else size
noncomputable def dSizeR (hs : List Int) (n : Int) : Nat → Int
  | 0 => maxI hs
  | i + 1 => dStep hs n (dSizeR hs n i)
@[irreducible] noncomputable def dSize (hs : List Int) (n : Int) (j : Nat) : Int := dSizeR hs n j
noncomputable def dMore (over x : Int) : Int := if x < over then x else over
/-- the places of the first k parties are dealt -/
noncomputable def dOverR (hs : List Int) (size : Int) : Nat → List Int × Int → List Int × Int
  | 0, p => p
  | k + 1, p =>
    let q := dOverR hs size k p
    let more := dMore q.2 (hs[k]! / size - q.1[k]!)
    (q.1.set k (q.1[k]! + more), q.2 - more)
@[irreducible] noncomputable def dOver (hs : List Int) (size : Int) (k : Nat) (p : List Int × Int) : List Int × Int := dOverR hs size k p
@[irreducible] noncomputable def dealtF (hs : List Int) (n : Int) (size : Int) : List Int :=
  let d := hs.map fun own => own / (size + 1)
  (dOver hs size 3 (d, n - d.sum)).1
theorem dOver_len (hs : List Int) (size : Int) (p : List Int × Int) : ∀ k, (dOver hs size k p).1.length = p.1.length
  | 0 => by unfold dOver; rfl
  | k + 1 => by
    have ih := dOver_len hs size p k
    unfold dOver at ih ⊢
    rw [dOverR]
    simp [ih]

theorem dOver_succ (hs : List Int) (size : Int) (k : Nat) (p q : List Int × Int) (h : q = dOver hs size k p) :
    dOver hs size (k + 1) p = (q.1.set k (q.1[k]! + dMore q.2 (hs[k]! / size - q.1[k]!)), q.2 - dMore q.2 (hs[k]! / size - q.1[k]!)) := by
  subst h
  unfold dOver
  rfl
theorem dOver_zero (hs : List Int) (size : Int) (p : List Int × Int) : dOver hs size 0 p = p := by unfold dOver; rfl
theorem dSize_succ (hs : List Int) (n : Int) (i : Nat) : dSize hs n (i + 1) = dStep hs n (dSize hs n i) := by unfold dSize; rfl
theorem dSize_zero (hs : List Int) (n : Int) : dSize hs n 0 = maxI hs := by unfold dSize; rfl
theorem dealtF_eq (hs : List Int) (n size : Int) (d : List Int) (h : hs.map (fun own => own / (size + 1)) = d) : dealtF hs n size = (dOver hs size 3 (d, n - d.sum)).1 := by subst h; rw [dealtF]
theorem dStep_eq (hs : List Int) (n size : Int) (d : List Int) (h : hs.map (fun own => own / size) = d) : dStep hs n size = if d.sum < n then maxI (List.zipWith (fun own many => own.fdiv (many + 1)) hs d) else size := by subst h; rw [dStep]

theorem look98 (w : World) : (KW w.params).lookup 98 = some (fnO "_law_dealt" (pickA 12 rfl) (pickB 12 rfl) (pickS 12 rfl) md4 97) := by kernel_rfl
theorem code97 (w : World) : codeIn (KW w.params) (.ref 97) "_law_dealt" = true := by kernel_rfl
theorem nm_marks (w : World) : nsIn (KW w.params) mainGlobals "_law_marks" = some (some (.ref 93)) := by kernel_rfl
theorem keep93 (w : World) : keepIn (KW w.params) (.ref 93) = true := by kernel_rfl
theorem nm_max (w : World) : nsIn (KW w.params) mainGlobals "max" = some none := by kernel_rfl
theorem nm_min (w : World) : nsIn (KW w.params) mainGlobals "min" = some none := by kernel_rfl
theorem nm_sum (w : World) : nsIn (KW w.params) mainGlobals "sum" = some none := by kernel_rfl
theorem nm_zip (w : World) : nsIn (KW w.params) mainGlobals "zip" = some none := by kernel_rfl
theorem nm_range (w : World) : nsIn (KW w.params) mainGlobals "range" = some none := by kernel_rfl
theorem bb_max : bootBuiltins "max" = some (.builtin "max") := by kernel_rfl
theorem bb_min : bootBuiltins "min" = some (.builtin "min") := by kernel_rfl
theorem bb_sum : bootBuiltins "sum" = some (.builtin "sum") := by kernel_rfl
theorem bb_zip : bootBuiltins "zip" = some (.type "zip") := by kernel_rfl
theorem bb_range : bootBuiltins "range" = some (.type "range") := by kernel_rfl

theorem News.swap {h₀ h : Heap} {L : Addr} {a b : Addr × Obj} {l : List (Addr × Obj)} (N : News h₀ L h (a :: b :: l)) : News h₀ L h (b :: a :: l) := fun p hp => by
  rcases List.mem_cons.mp hp with rfl | hp
  · exact N _ (List.mem_cons_of_mem _ List.mem_cons_self)
  · rcases List.mem_cons.mp hp with rfl | hp
    · exact N _ List.mem_cons_self
    · exact N p (List.mem_cons_of_mem _ (List.mem_cons_of_mem _ hp))
theorem News.keep2 {h₀ h : Heap} {L : Addr} {a b x y : Addr × Obj} {l : List (Addr × Obj)} (N : News h₀ L h (a :: b :: x :: y :: l)) : News h₀ L h (a :: b :: l) := fun p hp => by
  rcases List.mem_cons.mp hp with rfl | hp
  · exact N _ List.mem_cons_self
  · rcases List.mem_cons.mp hp with rfl | hp
    · exact N _ (List.mem_cons_of_mem _ List.mem_cons_self)
    · exact N p (List.mem_cons_of_mem _ (List.mem_cons_of_mem _ (List.mem_cons_of_mem _ (List.mem_cons_of_mem _ hp))))
noncomputable abbrev dlE (L' : Addr) : Env := envX "_law_dealt" (pickS 12 rfl) L' 98 (.ref 97) [("size", L' + 1)]

section
variable {w : World} {A A₀ : Around} {E : Value → Shared → Prop} {s : Shared} {h₀ base : Heap} {L : Addr} {m : Str → Option Value} {news : List (Addr × Obj)} {mean : ExcName → Option Value} {mg mb : Str → Option Value}
  {env : Env} {outer : List Env}

set_option maxHeartbeats 1600000 in
theorem dealt_call {Q : Value → Shared → Prop} {av : Addr} {oV : Obj} {vs : List Value} {ns : List Int} {n : Nat} {t2 : Tok} (B : Below A₀ base outer h₀) (F : Fr h₀ L s.heap m) (N : News h₀ L s.heap news) (G : Gd w mean mg mb h₀)
    (hA : A.frames = some (env :: outer)) (hf : env.frame = some L) (hke : env.scope.kind = .function) (hroom : A.depth + 20 < recursionLimit) (hb : AllBare s.gens) (hh : A.handled = none)
    (hV : (av, oV) ∈ news) (hoV : LO oV vs) (hi : IntsAre vs ns) (hlen : ns.length = 3) (hpos : ∀ a ∈ ns, 0 ≤ a ∧ a < 1000) (hn : n < 100)
    (hgood : ∀ j, j ≤ n → 1 ≤ dSize (ns.map (60 * ·)) n j ∧ dSize (ns.map (60 * ·)) n j ≠ 127 ∧ dSize (ns.map (60 * ·)) n j ≠ 126)
    (kont : ∀ T D tS h' tk' G' ys, IntsAre ys (dealtF (ns.map (60 * ·)) n (dSize (ns.map (60 * ·)) n n)) → Fr h₀ L h' m → News h₀ L h' ((T, { cls := .type "tuple", data := .seq #[.int (dSize (ns.map (60 * ·)) n n) tS, .ref D] }) :: (D, lst ys) :: news) →
      AllBare G' → Q (.ref T) { s with heap := h', toks := tk', gens := G' }) :
    wpAny (model PW w) A (call (.ref 98) [.ref av, .int n t2]) Q E s := by
  refine wpAny_call ?_
  refine code_defC (K := KW w.params) (name := "_law_dealt") (qual := "_law_dealt") (params := pickA 12 rfl) (body := pickB 12 rfl) (scope := pickS 12 rfl) B F G.K N G.T hA hf hke (look98 w) (code97 w) (by omega)
    (binds := [("votes", .ref av), ("seats", .int n t2)]) (BindsTo.of_eq rfl) rfl (by decide) (fun g L' h₁ tk₁ cells FG F1 N1 Y B1 X1 T1 lt1 => ?_) rfl rfl rfl
  refine wpAny_noRaise ?_
  obtain ⟨oc, rfl, hoc⟩ := CellsAre.one (n := "size") (c := L' + 1) Y
  have G1 : Gd w mean mg mb g := ⟨X1, T1⟩
  change wpAny _ _ (execs _ (dlE L')) _ _ _
  refine wpAny_execs_cons (comp_assign (cl := []) rfl rfl rfl (by decide) (nameX_L F1 rfl ?_))
  refine comp_map (fun a => 60 * a) hh rfl (by decide) rfl F1 N1 (List.mem_cons_of_mem _ hV) hoV hi hb (by omega) (fun a t G h tk C oC mC own ha hG F2 N2 hoC hm E' => ?_) (fun C oC mC D h tk G ys hys hG F2 N2 hoC off hCD => ?_)
  · have := hpos a ha
    exact wpAny_BinOp (wpAny_Constant_int (ldC rfl rfl N2 hoC hm (mul_int ⟨_, _, _, _, rfl, rfl, F2, N2, hG⟩ (mulOk this.1 (by omega)))))
  refine end_store N2 hoC (wpAny_assign_Name (storeX_L F2 N2 fun h3 F3 N3 => ⟨_, _, F3, N3, (fun p hp => ?_), fun h3 F3 N3 => ?_⟩))
  · rcases List.mem_cons.mp hp with rfl | hp
    · exact Ne.symm hCD
    · exact (off p hp).1
  generalize hhs : ns.map (60 * ·) = hs at hys hgood kont
  have hlen3 : hs.length = 3 := by rw [← hhs]; simpa using hlen
  have hpos3 : ∀ a ∈ hs, 0 ≤ a := fun a ha => by
    rw [← hhs] at ha
    obtain ⟨b, hb, rfl⟩ := List.mem_map.mp ha
    have := hpos b hb
    omega
  have hmax3 : ∀ a ∈ hs, a < 60000 := fun a ha => by
    rw [← hhs] at ha
    obtain ⟨b, hb, rfl⟩ := List.mem_map.mp ha
    have := hpos b hb
    omega
  have hcD : L' + 1 ≠ D := (off _ List.mem_cons_self).2
  have N3' := News.swap N3
  have hroom' : (A.deeper (dlE L')).depth + 10 < recursionLimit := by
    show A.depth + 1 + 10 < recursionLimit
    omega
  have off3 : ∀ p ∈ ((D, lst ys) :: news : List (Addr × Obj)), p.1 ≠ L' + 1 := fun p hp => by
    rcases List.mem_cons.mp hp with rfl | hp
    · exact Ne.symm hcD
    · exact Nat.ne_of_lt (Nat.lt_succ_of_lt (lt1 p hp))
  refine wpAny_execs_cons (wpAny_Assign_Name (Call_ (nameX_B F3 X1 (topRead_of T1) (nm_max w) bb_max (by decide) (PyProof.Rows.callWith_builtin1 (spliced_more (nameX_L F3 rfl (spliced_none (max_N (ns := hs) hh F3 N3' (List.mem_cons_of_mem _ List.mem_cons_self) (LO.lst ys) hys (by omega) fun h4 t4 tk4 F4 N4 => ?_))))))))
  refine storeX_C F4 N4 rfl (UpdF.head off3) hoc fun h5 oc5 F5 N5 hoc5 => ?_
  refine wpAny_execs_cons (wpAny_For (Call_ (nameX_B F5 X1 (topRead_of T1) (nm_range w) bb_range (by decide) (PyProof.Rows.callWith_type1 (spliced_more (nameX_L F5 rfl (spliced_none (range1_rows F5 N5 fun h6 tk6 t6 u6 v6 hr F6 N6 k6 => ?_))))))))
  refine for_range (n := n) (J := fun i m nw G => ∃ oc tc, nw = (L' + 1, oc) :: (D, lst ys) :: news ∧ oc.data = .cell (some (.int (dSize hs n i) tc)) ∧ m "held" = some (.ref D) ∧ m "seats" = some (.int n t2) ∧ AllBare G)
    hh rfl rfl rfl F6 N6 hr (by omega) ⟨oc5, t4, rfl, by rw [dSize_zero]; exact hoc5, rfl, rfl, hG⟩ (fun i m₁ nw G h tk I t' hin hJ F7 N7 off7 E' => ?_) (fun h tk G m₁ nw hJ F7 N7 => ?_)
  · obtain ⟨oc7, tc, rfl, hoc7, hm1, hm2, hG7⟩ := hJ
    have hA' : (A.deeper (dlE L')).frames = some (dlE L' :: env :: outer) := Around.frames_deeper B1.stack
    have hgi := hgood i (by omega)
    have N7' : News g L' h (((L' + 1, oc7) : Addr × Obj) :: (I, rI ((i : Int) + 1) ((n : Int) - (i : Int) - 1)) :: (D, lst ys) :: news) := News.swap N7
    refine wpAny_execs_cons (comp_assign (cl := [("size", L' + 1)]) rfl rfl rfl (by decide) (nameX_L F7 hm1 ?_))
    refine comp_map (fun a => a / dSize hs n i) hh rfl (by decide) rfl F7 N7' (List.mem_cons_of_mem _ (List.mem_cons_of_mem _ List.mem_cons_self)) (LO.lst ys) hys hG7 (by omega) (fun a t G h tk C oC mC own ha hG F8 N8 hoC hm E' => ?_) (fun C oC mC D2 h tk G ys2 hys2 hG8 F8 N8 hoC off8 hCD => ?_)
    · refine Call_ (nameG_K F8 X1 (topRead_of T1) (nm_marks w) (callWith_K X1 (keep93 w) (spliced_more ?_)) rfl rfl rfl (by decide))
      refine lcf_cell N8 rfl (List.mem_cons_of_mem _ (List.mem_append_right _ List.mem_cons_self)) hoc7 ?_ rfl rfl
      refine spliced_more (ldC rfl rfl N8 hoC hm (spliced_none ⟨X1.keeps F8.keep, ?_⟩))
      exact marks_call B1 F8 N8 G1 hA' rfl rfl hroom' hG hgi.1 hgi.2.1 (hpos3 a ha) fun t' h' tk' G' F9 N9 hb9 => ⟨h', tk', G', t', rfl, rfl, F9, N9, hb9⟩
    refine end_store N8 hoC (wpAny_assign_Name (storeX_L F8 N8 fun h9 F9 N9 => ⟨_, _, F9, N9, (fun p hp => ?_), fun h9 F9 N9 => ?_⟩))
    · rcases List.mem_cons.mp hp with rfl | hp
      · exact Ne.symm hCD
      · exact (off8 p hp).1
    generalize hms : hs.map (fun a => a / dSize hs n i) = ms at hys2
    have hmlen : ms.length = 3 := by rw [← hms]; simpa using hlen3
    have hmpos : ∀ a ∈ ms, 0 ≤ a ∧ a < 60000 := fun a ha => by
      rw [← hms] at ha
      obtain ⟨b, hb, rfl⟩ := List.mem_map.mp ha
      have hb' := hpos3 b hb
      have h1 := Int.ediv_nonneg hb' (show 0 ≤ dSize hs n i by omega)
      have h2 := Int.ediv_le_self (dSize hs n i) hb'
      have h3 := hmax3 b hb
      exact ⟨h1, by omega⟩
    have hstep : dSize hs n (i + 1) = if ms.sum < (n : Int) then maxI (List.zipWith (fun own many => own.fdiv (many + 1)) hs ms) else dSize hs n i := by rw [dSize_succ, dStep_eq _ _ _ _ hms]
    have hHD : (D, lst ys) ∈ ((D2, lst ys2) :: (L' + 1, oc7) :: (I, rI ((i : Int) + 1) ((n : Int) - (i : Int) - 1)) :: (D, lst ys) :: news : List (Addr × Obj)) := List.mem_cons_of_mem _ (List.mem_cons_of_mem _ (List.mem_cons_of_mem _ List.mem_cons_self))
    refine wpAny_execs_cons (wpAny_If (wpAny_isTrue_Compare1 (Call_ (nameX_B F9 X1 (topRead_of T1) (nm_sum w) bb_sum (by decide) (PyProof.Rows.callWith_builtin1 (spliced_more (nameX_L F9 rfl (spliced_none (sum_N hh F9 N9 List.mem_cons_self (LO.lst ys2) hys2 fun h10 t10 tk10 F10 N10 =>
      nameX_L F10 hm2 (lt_int (wpAny_truthy_bool ?_)))))))))))
    by_cases hlt : ms.sum < (n : Int)
    · rw [decide_eq_true hlt, if_pos rfl]
      rw [if_pos hlt] at hstep
      refine wpAny_execs_cons (wpAny_Assign_Name (Call_ (nameX_B F10 X1 (topRead_of T1) (nm_max w) bb_max (by decide) ?_)))
      refine PyProof.Rows.callWith_builtin1 (spliced_more (comp_eval (cl := []) rfl rfl (by decide) ?_))
      refine Call_ (nameX_B F10 X1 (topRead_of T1) (nm_zip w) bb_zip (by decide) ?_)
      refine PyProof.Rows.callWith_type1 (spliced_more (nameX_L F10 hm1 (spliced_more (nameX_L F10 rfl (spliced_none ?_)))))
      refine comp_zipMap (fun own many => own.fdiv (many + 1)) hh rfl (by decide) rfl rfl (by decide) F10 N10 hHD (LO.lst ys) hys List.mem_cons_self (LO.lst ys2) hys2 (by omega) (by omega)
        (fun x y t u h tk C oC mC own hxy F11 N11 hoC hma hmb E' => ?_) (fun C oC mC D3 h tk ys3 hys3 F11 N11 hoC off11 hCD => ?_)
      · have := hmpos y (List.of_mem_zip hxy).2
        exact wpAny_BinOp (ldC rfl rfl N11 hoC hma (wpAny_BinOp (ldC rfl rfl N11 hoC hmb (wpAny_Constant_int (add_int (floordiv_int (by omega) ⟨_, _, _, rfl, rfl, F11, N11⟩ (.inl (PyProof.noPylong_small (by omega)))))))))
      have hzl : (List.zipWith (fun own many => own.fdiv (many + 1)) hs ms).length = 3 := by rw [List.length_zipWith]; omega
      refine end_plain F11 N11 hoC off11 hCD fun h12 F12 N12 => spliced_none (max_N hh F12 N12 List.mem_cons_self (LO.lst ys3) hys3 (by omega) fun h13 t13 tk13 F13 N13 => ?_)
      have hcI : L' + 1 ≠ I := (off7 _ List.mem_cons_self)
      have hIcD : ∀ p ∈ ((D, lst ys) :: news : List (Addr × Obj)), p.1 ≠ I := fun p hp => off7 p (List.mem_cons_of_mem _ hp)
      have N13' : News g L' h13 (((L' + 1, oc7) : Addr × Obj) :: (I, rI ((i : Int) + 1) ((n : Int) - (i : Int) - 1)) :: (D, lst ys) :: news) := News.tail' (News.tail' N13)
      refine storeX_C F13 N13' rfl (UpdF.head fun p hp => ?_) hoc7 fun h14 oc14 F14 N14 hoc14 => ?_
      · rcases List.mem_cons.mp hp with rfl | hp
        · exact Ne.symm hcI
        · exact off3 p hp
      refine wpAny_execs_nil (wpAny_execs_nil ?_)
      refine ⟨h14, _, _, _, _, rfl, F14, News.swap N14, fun p hp => ?_, oc14, t13, rfl, ?_, hm1, hm2, hG8⟩
      · rcases List.mem_cons.mp hp with rfl | hp
        · exact hcI
        · exact hIcD p hp
      · rw [hstep]; exact hoc14
    · rw [decide_eq_false hlt, if_neg Bool.false_ne_true]
      rw [if_neg hlt] at hstep
      refine wpAny_execs_nil (wpAny_execs_nil ?_)
      have N13' : News g L' h10 (((L' + 1, oc7) : Addr × Obj) :: (I, rI ((i : Int) + 1) ((n : Int) - (i : Int) - 1)) :: (D, lst ys) :: news) := News.tail' N10
      exact ⟨h10, _, _, _, _, rfl, F10, News.swap N13', off7, oc7, tc, rfl, by rw [hstep]; exact hoc7, hm1, hm2, hG8⟩
  obtain ⟨oc7, tc, rfl, hoc7, hm1, hm2, hG7⟩ := hJ
  have hA' : (A.deeper (dlE L')).frames = some (dlE L' :: env :: outer) := Around.frames_deeper B1.stack
  have hgn := hgood n (Nat.le_refl _)
  refine wpAny_execs_cons (comp_assign (cl := [("size", L' + 1)]) rfl rfl rfl (by decide) (nameX_L F7 hm1 ?_))
  refine comp_map (fun a => a / (dSize hs n n + 1)) hh rfl (by decide) rfl F7 N7 (List.mem_cons_of_mem _ List.mem_cons_self) (LO.lst ys) hys hG7 (by omega) (fun a t G h tk C oC mC own ha hG F8 N8 hoC hm E' => ?_) (fun C oC mC D2 h tk G ys2 hys2 hG8 F8 N8 hoC off8 hCD => ?_)
  · refine Call_ (nameG_K F8 X1 (topRead_of T1) (nm_marks w) (callWith_K X1 (keep93 w) (spliced_more ?_)) rfl rfl rfl (by decide))
    refine wpAny_BinOp (lcf_cell N8 rfl (List.mem_cons_of_mem _ (List.mem_append_right _ List.mem_cons_self)) hoc7 ?_ rfl rfl)
    refine wpAny_Constant_int (add_int (spliced_more (ldC rfl rfl N8 hoC hm (spliced_none ⟨X1.keeps F8.keep, ?_⟩))))
    refine marks_call B1 F8 N8 G1 hA' rfl rfl hroom' hG (by omega) (by omega) (hpos3 a ha) fun t' h' tk' G' F9 N9 hb9 => ⟨h', tk', G', t', rfl, rfl, F9, N9, hb9⟩
  refine end_store N8 hoC (wpAny_assign_Name (storeX_L F8 N8 fun h9 F9 N9 => ⟨_, _, F9, N9, (fun p hp => ?_), fun h9 F9 N9 => ?_⟩))
  · rcases List.mem_cons.mp hp with rfl | hp
    · exact Ne.symm hCD
    · exact (off8 p hp).1
  generalize hms : hs.map (fun a => a / (dSize hs n n + 1)) = ms at hys2
  have hmlen : ms.length = 3 := by rw [← hms]; simpa using hlen3
  have hdF : dealtF hs n (dSize hs n n) = (dOver hs (dSize hs n n) 3 (ms, (n : Int) - ms.sum)).1 := dealtF_eq _ _ _ _ hms
  rw [hdF] at kont
  have hDD : D ≠ D2 := (off8 _ (List.mem_cons_of_mem _ List.mem_cons_self)).2
  have hcD2 : L' + 1 ≠ D2 := (off8 _ List.mem_cons_self).2
  refine wpAny_execs_cons (wpAny_Assign_Name (wpAny_BinOp (nameX_L F9 hm2 (Call_ (nameX_B F9 X1 (topRead_of T1) (nm_sum w) bb_sum (by decide) (PyProof.Rows.callWith_builtin1 (spliced_more (nameX_L F9 rfl (spliced_none (sum_N hh F9 N9 List.mem_cons_self (LO.lst ys2) hys2 fun h10 t10 tk10 F10 N10 =>
    sub_int (storeX_L F10 N10 fun h11 F11 N11 => ?_)))))))))))
  refine wpAny_execs_cons (wpAny_For (Call_ (nameX_B F11 X1 (topRead_of T1) (nm_range w) bb_range (by decide) (PyProof.Rows.callWith_type1 (spliced_more (wpAny_Constant_int (spliced_none (range1_rows F11 N11 fun h12 tk12 t12 u12 v12 hr F12 N12 k12 => ?_))))))))
  refine for_range (n := 3) (J := fun i m nw G =>  ∃ dv to q, nw = (D2, lst dv) :: (L' + 1, oc7) :: (D, lst ys) :: news ∧ q = dOver hs (dSize hs n n) i (ms, (n : Int) - ms.sum) ∧ IntsAre dv q.1 ∧ m "over" = some (.int q.2 to) ∧
      m "held" = some (.ref D) ∧ m "dealt" = some (.ref D2) ∧ AllBare G)
    hh rfl rfl rfl F12 N12 hr (by omega) ⟨ys2, _, (ms, (n : Int) - ms.sum), rfl, (dOver_zero _ _ _).symm, hys2, rfl, hm1, rfl, hG8⟩ (fun i m₁ nw G h tk I t' hin hJ F7 N7 off7 E' => ?_) (fun h tk G m₁ nw hJ F7 N7 => ?_)
  · obtain ⟨dv, to, q, rfl, hq, hdv, hk1, hk2, hk3, hG7⟩ := hJ
    have hql : q.1.length = 3 := by rw [hq, dOver_len]; exact hmlen
    have hdl : dv.length = 3 := by rw [ia_len hdv]; exact hql
    have ha : hs[i]? = some hs[i]! := by rw [List.getElem!_eq_getElem?_getD, List.getElem?_eq_getElem (by omega)]; rfl
    have hb : q.1[i]? = some q.1[i]! := by rw [List.getElem!_eq_getElem?_getD, List.getElem?_eq_getElem (by omega)]; rfl
    have mD2 : (D2, lst dv) ∈ (((I, rI ((i : Int) + 1) (((3 : Nat) : Int) - (i : Int) - 1)) :: (D2, lst dv) :: (L' + 1, oc7) :: (D, lst ys) :: news) : List (Addr × Obj)) := List.mem_cons_of_mem _ List.mem_cons_self
    have mC : (L' + 1, oc7) ∈ (((I, rI ((i : Int) + 1) (((3 : Nat) : Int) - (i : Int) - 1)) :: (D2, lst dv) :: (L' + 1, oc7) :: (D, lst ys) :: news) : List (Addr × Obj)) := List.mem_cons_of_mem _ (List.mem_cons_of_mem _ List.mem_cons_self)
    have mD : (D, lst ys) ∈ (((I, rI ((i : Int) + 1) (((3 : Nat) : Int) - (i : Int) - 1)) :: (D2, lst dv) :: (L' + 1, oc7) :: (D, lst ys) :: news) : List (Addr × Obj)) := List.mem_cons_of_mem _ (List.mem_cons_of_mem _ (List.mem_cons_of_mem _ List.mem_cons_self))
    refine wpAny_execs_cons (wpAny_Assign_Name (Call_ (nameX_B F7 X1 (topRead_of T1) (nm_min w) bb_min (by decide) ?_)))
    refine PyProof.Rows.callWith_builtin1 (spliced_more (nameX_L F7 hk1 (spliced_more (wpAny_BinOp ?_))))
    refine Call_ (nameX_K F7 X1 (topRead_of T1) (nm_marks w) (callWith_K X1 (keep93 w) (spliced_more (nameX_C N7 rfl mC hoc7 (spliced_more (Subscript_ ?_))))))
    refine nameX_L F7 hk2 (nameX_L F7 rfl ?_)
    refine item_N (ns := hs) (k := i) (a := hs[i]!) N7 mD (LO.lst ys) hys (by omega) ha fun ta => ?_
    refine spliced_none ⟨X1.keeps F7.keep, ?_⟩
    refine marks_call B1 F7 N7 G1 hA' rfl rfl hroom' hG7 hgn.1 hgn.2.1 (hpos3 _ (List.mem_of_getElem? ha)) fun t8 h8 tk8 G8 F8 N8 hb8 => ?_
    refine Subscript_ (nameX_L F8 hk3 (nameX_L F8 rfl (item_N N8 mD2 (LO.lst dv) hdv (by omega) hb fun tb => sub_int (spliced_none (min_two_N hh F8 N8 fun h9 tk9 F9 N9 => storeX_L F9 N9 fun h10 F10 N10 => ?_)))))
    refine wpAny_execs_cons (wpAny_AugAssign_Subscript_any (nameX_L F10 hk3 (nameX_L F10 rfl (getItem_N N10 mD2 (LO.lst dv) hdv (by omega) hb fun tc => nameX_L F10 rfl (iadd_int ?_)))))
    refine setItem_N (own := [(I, rI ((i : Int) + 1) (((3 : Nat) : Int) - (i : Int) - 1))]) F10 N10 (fun p hp => ?_) (fun p hp => ?_) (by omega) (by omega) fun h11 F11 N11 => ?_
    · rw [List.mem_singleton.mp hp]; exact Ne.symm (off7 _ List.mem_cons_self)
    · rcases List.mem_cons.mp hp with rfl | hp
      · exact hcD2
      · exact (off8 p (List.mem_cons_of_mem _ hp)).2
    refine wpAny_execs_cons (wpAny_AugAssign_Name (wpAny_loadName_local rfl rfl F11.ns hk1 (nameX_L F11 rfl (isub_int (storeX_L F11 N11 fun h12 F12 N12 => ?_)))))
    refine wpAny_execs_nil ?_
    refine ⟨h12, _, _, _, _, rfl, F12, N12, fun p hp => ?_, dv.set i (.int (q.1[i]! + dMore q.2 (hs[i]! / dSize hs n n - q.1[i]!)) _), _, (q.1.set i (q.1[i]! + dMore q.2 (hs[i]! / dSize hs n n - q.1[i]!)), q.2 - dMore q.2 (hs[i]! / dSize hs n n - q.1[i]!)), rfl, ?_, ia_set hdv i _ _, rfl, hk2, hk3, hb8⟩
    · rcases List.mem_cons.mp hp with rfl | hp
      · exact (off7 _ List.mem_cons_self : D2 ≠ I)
      · exact off7 p (List.mem_cons_of_mem _ hp)
    · exact (dOver_succ hs _ i _ q hq).symm
  obtain ⟨dv, to, q, rfl, hq, hdv, hk1, hk2, hk3, hG7⟩ := hJ
  refine wpAny_execs_cons (wpAny_Return_some (Tuple_ (spliced_more (nameX_C N7 rfl (List.mem_cons_of_mem _ List.mem_cons_self) hoc7 (spliced_more (nameX_L F7 hk3 (spliced_none (newTuple_N F7 N7 fun h8 F8 N8 => ?_))))))))
  refine leaveK_ F8 (News.keep2 N8) fun kF kN => ?_
  subst hq
  exact kont _ _ _ _ _ _ _ hdv kF kN hG7
end
end Mine
end

/-! part M12 -/
section
open PySem PySem.W PyProof.Rows PySem.Calls PyProof.Rows.LCg
namespace Mine
theorem ent3_ok : ∀ (t : Nat) (r : List Row), ∀ e ∈ ent3 t r, ∃ k, Value.isInt k e.key = true ∧ e.hash = hashInt k
  | t, [], e, h => by simp [ent3] at h
  | t, it :: r, e, h => by
    rw [ent3] at h
    rcases List.mem_cons.mp h with rfl | h
    · exact ⟨it.1, by simp [Value.isInt], rfl⟩
    · exact ent3_ok (t + 3) r e h
theorem ent2_ok : ∀ (t : Nat) (r : List Row), ∀ e ∈ ent2 t r, ∃ k, Value.isInt k e.key = true ∧ e.hash = hashInt k
  | t, [], e, h => by simp [ent2] at h
  | t, it :: r, e, h => by
    rw [ent2] at h
    rcases List.mem_cons.mp h with rfl | h
    · exact ⟨it.1, by simp [Value.isInt], rfl⟩
    · exact ent2_ok (t + 2) r e h
theorem look29 (w : World) : (KW w.params).lookup 29 = some (dOb bigE 650) := by kernel_rfl
/-- what the table holds -/
noncomputable def tabAt (k : Int) : Option Value := findBy Value.isInt bigE.toArray k
theorem tab_map (w : World) {h : Heap} (X : (KW w.params).In h) : h.MapOf (intKind PW w) 29 tabAt :=
  ⟨_, _, _, X _ _ (look29 w), ⟨rfl, rfl, rfl⟩, rfl, fun e he => by
    have he' : e ∈ bigE := by simpa using he
    rcases List.mem_append.mp he' with he' | he'
    · exact ent3_ok _ _ e he'
    · exact ent2_ok _ _ e he', fun _ => rfl⟩
/-- the text that a code's table place holds -/
noncomputable def strOf : Option Value → Option Str
  | some (.str p _) => some p
  | _ => none
/-- what map_table_b3 gives -/
noncomputable def b3F (n : Nat) : Str := match strOf (tabAt n) with
  | some p => p
  | none => Txt.lower ⟨#[n]⟩
noncomputable def fine (n : Nat) : Prop := tabAt n = none ∨ ∃ p t, tabAt n = some (.str p t)

theorem look74 (w : World) : (KW w.params).lookup 74 = some (fnO "map_table_b3" (pickA 7 rfl) (pickB 7 rfl) (pickS 7 rfl) md3 73) := by kernel_rfl
theorem code73 (w : World) : codeIn (KW w.params) (.ref 73) "map_table_b3" = true := by kernel_rfl
theorem nm_tab (w : World) : nsIn (KW w.params) mainGlobals "b3_exceptions" = some (some (.ref 29)) := by kernel_rfl
theorem nm_ord (w : World) : nsIn (KW w.params) mainGlobals "ord" = some none := by kernel_rfl
theorem bb_ord : bootBuiltins "ord" = some (.builtin "ord") := by kernel_rfl
section
variable {w : World} {A A₀ : Around} {E : Value → Shared → Prop} {s : Shared} {h₀ base : Heap} {L : Addr} {m : Str → Option Value} {news : List (Addr × Obj)} {mean : ExcName → Option Value} {mg mb : Str → Option Value}
  {env : Env} {outer : List Env}
theorem b3_call {Q : Value → Shared → Prop} {n : Nat} {t1 : Tok} (B : Below A₀ base outer h₀) (F : Fr h₀ L s.heap m) (N : News h₀ L s.heap news) (G : Gd w mean mg mb h₀)
    (hA : A.frames = some (env :: outer)) (hf : env.frame = some L) (hke : env.scope.kind = .function) (hroom : A.depth + 5 < recursionLimit) (hn : fine n)
    (kont : ∀ t h' tk', Fr h₀ L h' m → News h₀ L h' news → Q (.str (b3F n) t) { s with heap := h', toks := tk' }) :
    wpAny (model PW w) A (call (.ref 74) [.str ⟨#[n]⟩ t1]) Q E s := by
  refine wpAny_call ?_
  refine code_def (K := KW w.params) (name := "map_table_b3") (qual := "map_table_b3") (params := pickA 7 rfl) (body := pickB 7 rfl) (scope := pickS 7 rfl) B F G.K N G.T hA hf hke (look74 w) (code73 w) (by omega)
    (binds := [("code", .str ⟨#[n]⟩ t1)]) (BindsTo.of_eq rfl) (locs rfl) (fun g L' h₁ FG F1 N1 B1 X1 T1 => ?_) rfl rfl rfl (by decide)
  refine wpAny_noRaise ?_
  refine wpAny_execs_cons (wpAny_Assign_Name (MethodCall_ (name_K F1 X1 (topRead_of T1) (nm_tab w) ?_)))
  have M1 : h₁.MapOf (intKind PW w) 29 tabAt := tab_map w (X1.keeps F1.keep)
  refine getMethod_builtin (id := "dict.get") (T := "dict") M1.typeIs PySem.F.plainAttrs_dict PySem.F.slot_dict_get PySem.F.type_dict_get M1.noDict ?_
  refine PyProof.Rows.callWith_method1 (spliced_more (Call_ (name_B F1 X1 (topRead_of T1) (nm_ord w) bb_ord (by decide) (PyProof.Rows.callWith_builtin1 (spliced_more (ld F1 rfl (spliced_none (P.ord_of_char (spliced_none ?_)))))))))
  refine call_meetsIn PySem.F.slot_dict_get M1.typeIs PySem.F.entry_dict_get (PySem.F.args_dict_get_2 _ _) (meets_dict_get (intKind PW w) 29 (intKind_is PW w (n : Int) _) rfl) ⟨_, M1, ?_⟩
  refine stN F1 N1 fun h2 F2 N2 => ?_
  refine wpAny_execs_cons (wpAny_If (wpAny_isTrue_Compare1 (ld F2 rfl (wpAny_Constant_none ?_))))
  rcases hn with hn | ⟨p, t, hn⟩
  · have hb : b3F n = Txt.lower ⟨#[n]⟩ := by rw [b3F, hn]; rfl
    rw [hb] at kont
    rw [hn] at F2
    rw [hn]
    refine isnot_none_none (wpAny_truthy_bool ?_)
    rw [if_neg Bool.false_ne_true]
    refine wpAny_execs_nil (wpAny_execs_cons (wpAny_Return_some (MethodCall_ (ld F2 rfl (GM.lower (callWith_method0 (SC.lower (fit_lower (show 1 ≤ 5592405 by decide)) ?_)))))))
    exact leaveK_ F2 N2 fun kF kN => kont _ _ _ kF kN
  · have hb : b3F n = p := by rw [b3F, hn]; rfl
    rw [hb] at kont
    rw [hn] at F2
    rw [hn]
    refine isnot_str_none (wpAny_truthy_bool ?_)
    rw [if_pos rfl]
    refine wpAny_execs_cons (wpAny_Return_some (ld F2 rfl ?_))
    exact leaveK_ F2 N2 fun kF kN => kont t _ _ kF kN
/-- the fifteen signs -/
noncomputable def signsL : List (Nat × Str) := [(70, "f"), (73, "i"), (76, "l"), (105, "i"), (64256, "ff"), (64257, "fi"), (64258, "fl"), (64259, "ffi"), (64260, "ffl"), (119813, "f"), (119868, "i"), (120235, "l"), (8497, "f"), (8464, "i"), (8466, "l")]
noncomputable abbrev Shows (e : DictEntry) (r : Row) : Prop := ∃ h t u, e = ⟨h, .int r.1 t, .str r.2 u⟩
theorem ent3_shows : ∀ (t : Nat) (r : List Row), Paired Shows (ent3 t r) r
  | _, [] => .nil
  | t, _ :: r => .cons ⟨_, _, _, rfl⟩ (ent3_shows (t + 3) r)
theorem ent2_shows : ∀ (t : Nat) (r : List Row), Paired Shows (ent2 t r) r
  | _, [] => .nil
  | t, _ :: r => .cons ⟨_, _, _, rfl⟩ (ent2_shows (t + 2) r)
theorem paired_append {α β : Type} {F : α → β → Prop} {a b : List α} {c d : List β} (h : Paired F a c) (g : Paired F b d) : Paired F (a ++ b) (c ++ d) := by
  induction h with
  | nil => exact g
  | cons x _ ih => exact .cons x ih
theorem find_shows (k : Int) {es : List DictEntry} {rs : List Row} (h : Paired Shows es rs) :
    (((rs.find? fun r => r.1 == k) = none → es.find? (fun e => Value.isInt k e.key) = none)) ∧ (∀ r, rs.find? (fun r => r.1 == k) = some r → ∃ e, es.find? (fun e => Value.isInt k e.key) = some e ∧ ∃ u, e.val = .str r.2 u) := by
  induction h with
  | nil => exact ⟨fun _ => rfl, fun r e => by simp at e⟩
  | @cons e r es rs x _ ih =>
    obtain ⟨h, t, u, rfl⟩ := x
    by_cases hk : r.1 = k
    · have h1 : (r.1 == k) = true := by simp [hk]
      have h2 : Value.isInt k (.int r.1 t) = true := by simp [Value.isInt, hk]
      refine ⟨fun e => (by rw [List.find?_cons, h1] at e; cases e), fun r' e => ?_⟩
      rw [List.find?_cons, h1] at e
      cases e
      exact ⟨⟨h, .int r.1 t, .str r.2 u⟩, (by rw [List.find?_cons]; simp only [h2]), u, rfl⟩
    · have h1 : (r.1 == k) = false := by simpa using hk
      have h2 : Value.isInt k (.int r.1 t) = false := by
        simp [Value.isInt]; exact hk
      rw [List.find?_cons, h1, List.find?_cons]
      simp only [h2]
      exact ih
theorem tab_rows : Paired Shows bigE (R0 ++ R1 ++ R2) := paired_append (ent3_shows _ _) (ent2_shows _ _)
theorem tabAt_eq (k : Int) : tabAt k = (bigE.find? fun e => Value.isInt k e.key).map (·.val) := by
  rw [tabAt, findBy, List.find?_toArray]
theorem tab_none {k : Int} (h : ((R0 ++ R1 ++ R2).find? fun r => r.1 == k) = none) : tabAt k = none := by
  rw [tabAt_eq, (find_shows k tab_rows).1 h]; rfl
theorem tab_some {k : Int} {r : Row} (h : ((R0 ++ R1 ++ R2).find? fun r => r.1 == k) = some r) : ∃ u, tabAt k = some (.str r.2 u) := by
  obtain ⟨e, he, u, hu⟩ := (find_shows k tab_rows).2 r h
  exact ⟨u, by rw [tabAt_eq, he, ← hu]; rfl⟩
theorem R_rows : R0 ++ R1 ++ R2 = rows := by
  show rows.take 17 ++ (rows.drop 17).take 629 ++ rows.drop 646 = rows
  rw [List.append_assoc, show rows.drop 646 = (rows.drop 17).drop 629 by rw [List.drop_drop], List.take_append_drop, List.take_append_drop]
theorem signs_none : ((signsL.take 4).all fun p => (rows.find? fun r => r.1 == (p.1 : Int)).isNone) = true := by kernel_rfl
theorem signs_some : ((signsL.drop 4).all fun p => ((rows.find? fun r => r.1 == (p.1 : Int)).map (·.2)) == some p.2) = true := by kernel_rfl
theorem signs_low : ((signsL.take 4).all fun p => Txt.lower ⟨#[p.1]⟩ == p.2) = true := by kernel_rfl
theorem signs_fine : ∀ p ∈ signsL, fine p.1 ∧ b3F p.1 = p.2 := by
  intro p hp
  rw [← List.take_append_drop 4 signsL] at hp
  rcases List.mem_append.mp hp with hp | hp
  · have h1 := List.all_eq_true.mp signs_none p hp
    have h2 := List.all_eq_true.mp signs_low p hp
    simp only [Option.isNone_iff_eq_none, beq_iff_eq] at h1 h2
    have h3 := tab_none (k := (p.1 : Int)) (by rw [R_rows]; exact h1)
    exact ⟨.inl h3, by rw [b3F, h3]; exact h2⟩
  · have h1 := List.all_eq_true.mp signs_some p hp
    simp only [beq_iff_eq] at h1
    obtain ⟨r, hr, e⟩ := Option.map_eq_some_iff.mp h1
    obtain ⟨u, hu⟩ := tab_some (k := (p.1 : Int)) (by rw [R_rows]; exact hr)
    exact ⟨.inr ⟨_, _, hu⟩, by rw [b3F, hu]; exact e⟩
end
end Mine
end

/-! part M13 -/
section
open PySem PySem.W PyProof.Rows PySem.Calls PyProof.Rows.LCg
namespace Mine
theorem own_stop (args : List Value) : ownMembersOf (.type "StopIteration") args = #[] := by
  unfold ownMembersOf
  split <;> first | rfl | (rename_i h; revert h; decide) | simp_all
section
variable {w : World} {A : Around} {E : Value → Shared → Prop} {s : Shared} {h₀ : Heap} {L : Addr} {m : Str → Option Value} {news : List (Addr × Obj)}
theorem next_N {I l : Addr} {oI oA : Obj} {vs : List Value} {i : Nat} {v : Value} {Q : Value → Shared → Prop} (F : Fr h₀ L s.heap m) (N : News h₀ L s.heap ((I, oI) :: news)) (off : ∀ p ∈ news, p.1 ≠ I)
    (hI : LI oI l i) (hl : (l, oA) ∈ news) (hoA : LO oA vs) (hx : vs[i]? = some v)
    (h : ∀ h' o', Fr h₀ L h' m → News h₀ L h' ((I, o') :: news) → LI o' l (i + 1) → Q v { s with heap := h' }) :
    wpAny (model PW w) A (call (.builtin "next") [.ref I]) Q E s := by
  have zI := N _ List.mem_cons_self
  have zA := N _ (List.mem_cons_of_mem _ hl)
  have hit := hI.at zI.1
  have ho := zI.1
  have hd := hI.2
  obtain ⟨ol, hol, _, nl, hdl⟩ := hoA.at zA.1
  refine call_function_entry (by decide +kernel) (by decide +kernel) kdk_entry_next (kdk_args_next _) ?_
  unfold Builtin.«next»
  refine wpAny_bind (m := someArgs "next" 1 2 _) (wpAny_of_eq (a := [Value.ref I]) (by first | rfl | kernel_rfl!) ?_)
  dsimp only
  refine wpAny_bind (wpAny_specialOf (name := Str.ofString "__next__") hit.typeIs slot_listiter_next.lookup ?_)
  refine wpAny_ite_split (fun hab => absurd hab (by decide)) (fun _ => ?_)
  refine wpAny_bind (wpAny_callSpecial?_slot (name := Str.ofString "__next__") hit.typeIs slot_listiter_next
    (wpAny_call_entry slot_listiter_next hit.typeIs entry_listiter_next ?_ (args_listiter_next _)))
  show wpAny _ _ (field (.ref I) 0 >>= _) _ _ s
  refine wpAny_bind (wpAny_field ho hd (x := .ref l) rfl ?_)
  show wpAny _ _ (if (Value.ref l == Value.none) = true then _ else _) _ _ s
  rw [if_neg (show ¬ ((Value.ref l == Value.none) = true) from Bool.false_ne_true)]
  show wpAny _ _ (field (.ref I) 1 >>= _) _ _ s
  refine wpAny_bind (wpAny_field ho hd (x := .int i 0) rfl ?_)
  show wpAny _ _ (seqItems? (.ref l) >>= _) _ _ s
  refine wpAny_bind (wpAny_seqItems hol hdl ?_)
  have hx' : vs.toArray[i]? = some v := by simpa using hx
  simp only [Int.toNat_natCast, hx']
  refine wpAny_bind (wpAny_setField ho hd (by simp) (wpAny_pure ⟨v, rfl, ?_⟩))
  have hs : Heap.SameBut I s.heap (s.heap.update I (Obj.mapFields (·.setIfInBounds 1 (rawInt ((i : Int) + 1))))) := Heap.SameBut.update ..
  have e' := Heap.get?_update_self (Obj.mapFields (·.setIfInBounds 1 (rawInt ((i : Int) + 1)))) ho (Obj.isFreed_of_fields (Obj.data_mapFields hd _))
  refine wpAny_pure ⟨v, rfl, h _ _ (F.change hs zI.2.1 zI.2.2) (N.setHead off hs e') ⟨(Obj.cls_mapFields ..).trans hI.1, by rw [Obj.data_mapFields hd]; simp [rawInt]⟩⟩
/-- behind the last item: StopIteration -/
theorem next_end_N {I l : Addr} {oI oA : Obj} {vs : List Value} {i : Nat} {Q : Value → Shared → Prop} (hh : A.handled = none) (F : Fr h₀ L s.heap m) (N : News h₀ L s.heap ((I, oI) :: news)) (off : ∀ p ∈ news, p.1 ≠ I)
    (hI : LI oI l i) (hl : (l, oA) ∈ news) (hoA : LO oA vs) (hx : vs[i]? = none)
    (h : ∀ h₁ h' e, Fr h₀ L h₁ m → News h₀ L h₁ news → Heap.NewExc h₁ h' e "StopIteration" → E (.ref e) { s with heap := h' }) :
    wpAny (model PW w) A (call (.builtin "next") [.ref I]) Q E s := by
  have zI := N _ List.mem_cons_self
  have zA := N _ (List.mem_cons_of_mem _ hl)
  have hit := hI.at zI.1
  have ho := zI.1
  have hd := hI.2
  obtain ⟨ol, hol, _, nl, hdl⟩ := hoA.at zA.1
  refine call_function_entry (by decide +kernel) (by decide +kernel) kdk_entry_next (kdk_args_next _) ?_
  unfold Builtin.«next»
  refine wpAny_bind (m := someArgs "next" 1 2 _) (wpAny_of_eq (a := [Value.ref I]) (by first | rfl | kernel_rfl!) ?_)
  dsimp only
  refine wpAny_bind (wpAny_specialOf (name := Str.ofString "__next__") hit.typeIs slot_listiter_next.lookup ?_)
  refine wpAny_ite_split (fun hab => absurd hab (by decide)) (fun _ => ?_)
  refine wpAny_bind (wpAny_callSpecial?_slot (name := Str.ofString "__next__") hit.typeIs slot_listiter_next
    (wpAny_call_entry slot_listiter_next hit.typeIs entry_listiter_next ?_ (args_listiter_next _)))
  show wpAny _ _ (field (.ref I) 0 >>= _) _ _ s
  refine wpAny_bind (wpAny_field ho hd (x := .ref l) rfl ?_)
  show wpAny _ _ (if (Value.ref l == Value.none) = true then _ else _) _ _ s
  rw [if_neg (show ¬ ((Value.ref l == Value.none) = true) from Bool.false_ne_true)]
  show wpAny _ _ (field (.ref I) 1 >>= _) _ _ s
  refine wpAny_bind (wpAny_field ho hd (x := .int i 0) rfl ?_)
  show wpAny _ _ (seqItems? (.ref l) >>= _) _ _ s
  refine wpAny_bind (wpAny_seqItems hol hdl ?_)
  have hx' : vs.toArray[i]? = none := by simpa using hx
  simp only [Int.toNat_natCast, hx']
  refine wpAny_bind (wpAny_rule (wpAny_bind (wpAny_setField ho hd (by simp) ?_)))
  have hs : Heap.SameBut I s.heap (s.heap.update I (Obj.mapFields (·.setIfInBounds 0 .none))) := Heap.SameBut.update ..
  have F1 := F.change hs zI.2.1 zI.2.2
  have N1 : News h₀ L (s.heap.update I (Obj.mapFields (·.setIfInBounds 0 .none))) news := fun p hp => ⟨hs.extBut _ _ (off p hp) (N p (List.mem_cons_of_mem _ hp)).1, (N p (List.mem_cons_of_mem _ hp)).2⟩
  show wpAny _ _ (newExc (.type "StopIteration") [] >>= _) _ _ _
  refine wpAny_bind ?_
  simp only [newExc, newTuple]
  refine wpAny_bind (wpAny_newObj_type ?_ (by size_fits))
  refine wpAny_bind (m := firstArgMember _ _) (wpAny_of_eq (a := Value.none) (by first | rfl | (simp only [firstArgMember]; rfl)) ?_)
  refine wpAny_newObj_type ?_ (by size_fits)
  simp only [raiseNew]
  refine wpAny_bind (wpAny_handled ?_)
  first | rw [show A.in1.handled = none from hh] | rw [hh]
  refine wpAny_bind (wpAny_pure (wpAny_throw ?_))
  exact h _ _ _ F1 N1 ⟨fun b o hb => Heap.get?_push_of_some _ (Heap.get?_push_of_some _ hb), Heap.get?_none_of_le (by simp), _, .ref s.heap.objs.size, Heap.get?_push_size _ rfl, rfl, by simp [own_stop]⟩
end
end Mine
end

/-! part M14 -/
section
open PySem PySem.W PyProof.Rows PySem.Calls PyProof.Rows.LCg
namespace Mine
/-- what _parse_varint reads: the value so far, the last octet, the octets behind it -/
noncomputable def parVR : List Int → Int → Int → Option (Int × Nat)
  | [], val, b => if Builtin.bitAnd b 64 = 0 then some (val, 0) else none
  | c :: r, val, b => if Builtin.bitAnd b 64 = 0 then some (val, 0) else (parVR r (Builtin.bitOr (val * 64) (Builtin.bitAnd c 63)) c).map fun p => (p.1, p.2 + 1)
theorem parVR_stop {l : List Int} {val b : Int} (h : Builtin.bitAnd b 64 = 0) : parVR l val b = some (val, 0) := by
  cases l <;> simp [parVR, h]
theorem parVR_go {l : List Int} {val b v : Int} {k : Nat} (h : Builtin.bitAnd b 64 ≠ 0) (e : parVR l val b = some (v, k)) :
    ∃ c r k', l = c :: r ∧ k = k' + 1 ∧ parVR r (Builtin.bitOr (val * 64) (Builtin.bitAnd c 63)) c = some (v, k') := by
  cases l with
  | nil => simp [parVR, h] at e
  | cons c r =>
    rw [parVR, if_neg h] at e
    cases hp : parVR r (Builtin.bitOr (val * 64) (Builtin.bitAnd c 63)) c with
    | none => rw [hp] at e; cases e
    | some p =>
      rw [hp] at e
      cases e
      exact ⟨c, r, p.2, rfl, rfl, hp⟩
theorem parVR_len : ∀ {l : List Int} {val b v : Int} {k : Nat}, parVR l val b = some (v, k) → k ≤ l.length
  | [], val, b, v, k, h => by
    rw [parVR] at h
    split at h <;> cases h
    exact Nat.le_refl _
  | c :: r, val, b, v, k, h => by
    rw [parVR] at h
    split at h
    · cases h; exact Nat.zero_le _
    · cases hp : parVR r (Builtin.bitOr (val * 64) (Builtin.bitAnd c 63)) c with
      | none => rw [hp] at h; cases h
      | some p => rw [hp] at h; cases h; exact Nat.succ_le_succ (parVR_len hp)

@[irreducible] noncomputable def parV (l : List Int) (val b : Int) : Option (Int × Nat) := parVR l val b
theorem parV_stop {l : List Int} {val b : Int} (h : Builtin.bitAnd b 64 = 0) : parV l val b = some (val, 0) := by
  unfold parV; exact parVR_stop h
theorem parV_go {l : List Int} {val b v : Int} {k : Nat} (h : Builtin.bitAnd b 64 ≠ 0) (e : parV l val b = some (v, k)) :
    ∃ c r k', l = c :: r ∧ k = k' + 1 ∧ parV r (Builtin.bitOr (val * 64) (Builtin.bitAnd c 63)) c = some (v, k') := by
  unfold parV at *; exact parVR_go h e
theorem parV_len {l : List Int} {val b v : Int} {k : Nat} (h : parV l val b = some (v, k)) : k ≤ l.length := by
  unfold parV at h; exact parVR_len h

theorem and63 {c : Int} (h : 0 ≤ c) : 0 ≤ Builtin.bitAnd c 63 ∧ Builtin.bitAnd c 63 < 64 := by
  rw [bitAnd_pp h (by decide)]
  have : c.toNat &&& (63 : Int).toNat ≤ (63 : Int).toNat := Nat.and_le_right
  have e : (63 : Int).toNat = 63 := rfl
  omega
theorem orBd {x y : Int} (hx : 0 ≤ x) (hy : 0 ≤ y) : 0 ≤ Builtin.bitOr x y ∧ Builtin.bitOr x y ≤ x + y := by
  rw [bitOr_and, bitAnd_pp hx hy]
  have : x.toNat &&& y.toNat ≤ y.toNat := Nat.and_le_right
  omega

theorem look28 (w : World) : (KW w.params).lookup 28 = some (fnO "_parse_varint" (pickA 4 rfl) (pickB 4 rfl) (pickS 4 rfl) md2 27) := by kernel_rfl
theorem code27 (w : World) : codeIn (KW w.params) (.ref 27) "_parse_varint" = true := by kernel_rfl
theorem nm_next (w : World) : nsIn (KW w.params) mainGlobals "next" = some none := by kernel_rfl
theorem bb_next : bootBuiltins "next" = some (.builtin "next") := by kernel_rfl
noncomputable abbrev pvE (L' : Addr) : Env := envOf "_parse_varint" (pickS 4 rfl) L' 28 (.ref 27)
section
variable {w : World} {A A₀ : Around} {E : Value → Shared → Prop} {s : Shared} {h₀ base : Heap} {L : Addr} {m : Str → Option Value} {news : List (Addr × Obj)} {mean : ExcName → Option Value} {mg mb : Str → Option Value}
  {env : Env} {outer : List Env}
theorem drop_cons_get {α : Type} {l : List α} {i : Nat} {b : α} {r : List α} (h : l.drop i = b :: r) : l[i]? = some b ∧ l.drop (i + 1) = r := by
  refine ⟨?_, ?_⟩
  · have := congrArg (fun x => x[0]?) h
    simpa using this
  · have := congrArg List.tail h
    simpa using this
set_option maxHeartbeats 1600000 in
theorem varint_call {Q : Value → Shared → Prop} {I l : Addr} {oI oA : Obj} {vs : List Value} {ns : List Int} {i : Nat} {b : Int} {r : List Int} {v : Int} {k : Nat}
    (B : Below A₀ base outer h₀) (F : Fr h₀ L s.heap m) (N : News h₀ L s.heap ((I, oI) :: news)) (off : ∀ p ∈ news, p.1 ≠ I) (G : Gd w mean mg mb h₀)
    (hA : A.frames = some (env :: outer)) (hf : env.frame = some L) (hke : env.scope.kind = .function) (hroom : A.depth + 5 < recursionLimit)
    (hI : LI oI l i) (hl : (l, oA) ∈ news) (hoA : LO oA vs) (hi : IntsAre vs ns) (hd : ns.drop i = b :: r) (hp : parV r (Builtin.bitAnd b 63) b = some (v, k)) (hbig : ∀ a ∈ ns, 0 ≤ a ∧ a < 128) (hk3 : k ≤ 3)
    (kont : ∀ t h' tk' o', Fr h₀ L h' m → News h₀ L h' ((I, o') :: news) → LI o' l (i + 1 + k) → Q (.int v t) { s with heap := h', toks := tk' }) :
    wpAny (model PW w) A (call (.ref 28) [.ref I]) Q E s := by
  have item : ∀ {i : Nat} {c : Int}, ns[i]? = some c → ∃ t, vs[i]? = some (.int c t) := fun {i c} e => by
    have hlt : i < vs.length := by rw [ia_len hi]; exact (List.getElem?_eq_some_iff.mp e).1
    obtain ⟨c', t, e', q⟩ := ia_get hi (List.getElem?_eq_getElem hlt)
    rw [e] at e'; cases e'
    exact ⟨t, by rw [List.getElem?_eq_getElem hlt, q]⟩
  refine wpAny_call ?_
  refine code_def (K := KW w.params) (name := "_parse_varint") (qual := "_parse_varint") (params := pickA 4 rfl) (body := pickB 4 rfl) (scope := pickS 4 rfl) B F G.K N G.T hA hf hke (look28 w) (code27 w) (by omega)
    (binds := [("iterator", .ref I)]) (BindsTo.of_eq rfl) (locs rfl) (fun g L' h₁ FG F1 N1 B1 X1 T1 => ?_) rfl rfl rfl (by decide)
  refine wpAny_noRaise ?_
  obtain ⟨hb, hd'⟩ := drop_cons_get hd
  obtain ⟨tb, hvb⟩ := item hb
  refine wpAny_execs_cons (wpAny_Assign_Name (Call_ (name_B F1 X1 (topRead_of T1) (nm_next w) bb_next (by decide) (PyProof.Rows.callWith_builtin1 (spliced_more (ld F1 rfl (spliced_none ?_)))))))
  refine next_N F1 N1 off hI hl hoA hvb fun h2 o2 F2 N2 hI2 => stN F2 N2 fun h3 F3 N3 => ?_
  refine wpAny_execs_cons (wpAny_Assign_Name (wpAny_BinOp (ld F3 rfl (wpAny_Constant_int (and_int (stN F3 N3 fun h4 F4 N4 => ?_))))))
  refine wpAny_execs_cons (While_inv (J := fun n m' nw => ∃ o' val b r j tb tv, nw = (I, o') :: news ∧ LI o' l (i + 1 + j) ∧ m' "iterator" = some (.ref I) ∧ m' "b" = some (.int b tb) ∧ m' "val" = some (.int val tv) ∧ ns.drop (i + 1 + j) = r ∧ j + n = k ∧ parV r val b = some (v, n) ∧ 0 ≤ val ∧ val < 64 * 64 ^ j)
    F4 N4 ⟨o2, _, b, r, 0, _, _, rfl, hI2, rfl, rfl, rfl, hd', Nat.zero_add _, hp, ?_, ?_⟩ fun n m5 nw5 h5 tk5 F5 N5 hJ => ?_)
  · exact (and63 (hbig b (List.mem_of_getElem? hb)).1).1
  · simpa using (and63 (hbig b (List.mem_of_getElem? hb)).1).2
  obtain ⟨o', val, b, r, j, tb, tv, rfl, hI5, m1, m2, m3, hr, hjn, hp5, v0, v1⟩ := hJ
  refine wpAny_isTrue_value (wpAny_BinOp (ld F5 m2 (wpAny_Constant_int (and_int (P.truthy_int ?_)))))
  by_cases hz : Builtin.bitAnd b 64 = 0
  · rw [hz]
    rw [if_neg (by decide)]
    rw [parV_stop hz] at hp5
    cases hp5
    refine wpAny_execs_cons (wpAny_Return_some (ld F5 m3 ?_))
    refine leaveK_ F5 N5 fun kF kN => ?_
    obtain rfl : j = k := by omega
    exact kont _ _ _ _ kF kN hI5
  · rw [show (Builtin.bitAnd b 64 != 0) = true from bne_iff_ne.mpr hz, if_pos rfl]
    obtain ⟨c, r', k', rfl, rfl, hp6⟩ := parV_go hz hp5
    obtain ⟨hc, hr'⟩ := drop_cons_get hr
    obtain ⟨tc, hvc⟩ := item hc
    have hc0 := (hbig c (List.mem_of_getElem? hc)).1
    have hj3 : j ≤ 2 := by omega
    have hv64 : val < 64 * 64 ^ 2 := Int.lt_of_lt_of_le v1 (by
      have : (64 : Int) ^ j ≤ 64 ^ 2 := by
        have hj' : j = 0 ∨ j = 1 ∨ j = 2 := by omega
        rcases hj' with rfl | rfl | rfl <;> decide
      omega)
    refine wpAny_execs_cons (wpAny_AugAssign_Name (ldn F5 m3 (wpAny_Constant_int (ilshift_int_small (by decide) (by decide) (by omega) (stN F5 N5 fun h6 F6 N6 => ?_)))))
    refine wpAny_execs_cons (wpAny_Assign_Name (Call_ (name_B F6 X1 (topRead_of T1) (nm_next w) bb_next (by decide) (PyProof.Rows.callWith_builtin1 (spliced_more (ld F6 m1 (spliced_none ?_)))))))
    refine next_N F6 N6 off hI5 hl hoA hvc fun h7 o7 F7 N7 hI7 => stN F7 N7 fun h8 F8 N8 => ?_
    refine wpAny_execs_cons (wpAny_AugAssign_Name (ldn F8 rfl (wpAny_BinOp (ld F8 rfl (wpAny_Constant_int (and_int (ior_int (stN F8 N8 fun h9 F9 N9 => ?_))))))))
    refine wpAny_execs_nil (WhileStep.intro F9 N9 (Nat.lt_succ_self k') ⟨o7, _, c, r', j + 1, _, _, rfl, hI7, m1, rfl, rfl, hr', by omega, hp6, ?_, ?_⟩)
    · show 0 ≤ Builtin.bitOr (val * 64) (Builtin.bitAnd c 63)
      exact (orBd (x := val * 64) (by omega) (and63 hc0).1).1
    · have h1 := (orBd (x := val * 64) (by omega) (and63 hc0).1).2
      have h2 := (and63 hc0).2
      rw [Int.pow_succ]
      have h3 : val + 1 ≤ 64 * 64 ^ j := v1
      show Builtin.bitOr (val * 64) (Builtin.bitAnd c 63) < _
      omega
end
end Mine
end

/-! part M15 -/
section
open PySem PySem.W PyProof.Rows PySem.Calls PyProof.Rows.LCg
namespace Mine
/-- what _law_octets writes ahead of the last octet -/
noncomputable def octLR : Nat → Nat → List Int → List Int
  | 0, _, d => d
  | k + 1, n, d => if 63 < n then octLR k (n / 64) ((((n / 64 % 64 : Nat) : Int) + 64) :: d) else d
@[irreducible] noncomputable def octL (k n : Nat) (d : List Int) : List Int := octLR k n d
theorem octL_zero (n : Nat) (d : List Int) : octL 0 n d = d := by unfold octL; rfl
theorem octL_stop {k n : Nat} {d : List Int} (h : ¬ 63 < n) : octL k n d = d := by
  unfold octL
  cases k with
  | zero => rw [octLR]
  | succ k => rw [octLR, if_neg h]
theorem octL_go {k n : Nat} {d : List Int} (h : 63 < n) : octL (k + 1) n d = octL k (n / 64) ((((n / 64 % 64 : Nat) : Int) + 64) :: d) := by
  unfold octL
  rw [octLR, if_pos h]
@[irreducible] noncomputable def octF (n : Nat) : List Int := octL 4 n [((n % 64 : Nat) : Int)]
theorem octF_eq (n : Nat) : octL 4 n [((n % 64 : Nat) : Int)] = octF n := by unfold octF; rfl
theorem look81 (w : World) : (KW w.params).lookup 81 = some (fnO "_law_octets" (pickA 9 rfl) (pickB 9 rfl) (pickS 9 rfl) md4 80) := by kernel_rfl
theorem code80 (w : World) : codeIn (KW w.params) (.ref 80) "_law_octets" = true := by kernel_rfl
theorem fmod64 (n : Nat) : (n : Int).fmod 64 = ((n % 64 : Nat) : Int) := by
  rw [Int.fmod_eq_emod_of_nonneg _ (by decide)]; rfl
theorem fdiv64 (n : Nat) : (n : Int).fdiv 64 = ((n / 64 : Nat) : Int) := by
  rw [Int.fdiv_eq_ediv_of_nonneg _ (by decide)]; rfl
theorem ia_cons {vs : List Value} {ns : List Int} {a b : Int} {t : Tok} (e : a = b) (h : IntsAre vs ns) : IntsAre (Value.int a t :: vs) (b :: ns) := e ▸ .cons a t h
section
variable {w : World} {A A₀ : Around} {E : Value → Shared → Prop} {s : Shared} {h₀ base : Heap} {L : Addr} {m : Str → Option Value} {news : List (Addr × Obj)} {mean : ExcName → Option Value} {mg mb : Str → Option Value}
  {env : Env} {outer : List Env}
set_option maxHeartbeats 1600000 in
theorem octets_call {Q : Value → Shared → Prop} {n : Nat} {t1 : Tok} (B : Below A₀ base outer h₀) (F : Fr h₀ L s.heap m) (N : News h₀ L s.heap news) (G : Gd w mean mg mb h₀)
    (hA : A.frames = some (env :: outer)) (hf : env.frame = some L) (hke : env.scope.kind = .function) (hroom : A.depth + 5 < recursionLimit) (hn : n < 64 ^ 5)
    (kont : ∀ D h' tk' vs c, IntsAre vs (octF n) → vs.length ≤ 104 → Fr h₀ L h' m → News h₀ L h' ((D, listOf vs.toArray c) :: news) → (∀ p ∈ news, p.1 ≠ D) → Q (.ref D) { s with heap := h', toks := tk' }) :
    wpAny (model PW w) A (call (.ref 81) [.int n t1]) Q E s := by
  refine wpAny_call ?_
  refine code_def (K := KW w.params) (name := "_law_octets") (qual := "_law_octets") (params := pickA 9 rfl) (body := pickB 9 rfl) (scope := pickS 9 rfl) B F G.K N G.T hA hf hke (look81 w) (code80 w) (by omega)
    (binds := [("number", .int n t1)]) (BindsTo.of_eq rfl) (locs rfl) (fun g L' h₁ FG F1 N1 B1 X1 T1 => ?_) rfl rfl rfl (by decide)
  refine wpAny_noRaise ?_
  refine wpAny_execs_cons (wpAny_Assign_Name (List_ (spliced_more (wpAny_BinOp (ld F1 rfl (wpAny_Constant_int (PyProof.Rows.mod_int (by decide) (spliced_none ?_))))))))
  refine newList_N F1 N1 fun h2 F2 N2 => stN F2 N2 fun h3 F3 N3 => ?_
  have off3 : ∀ p ∈ news, p.1 ≠ h₁.objs.size := fun p hp => Nat.ne_of_lt (Heap.lt_size (N1 p hp).1)
  rw [fmod64] at N3
  dsimp only at F3 N3
  generalize h₁.objs.size = D at F3 N3 off3 ⊢
  refine wpAny_execs_cons (While_inv (J := fun k m' nw => ∃ (n' : Nat) (d : List Int) (dv : List Value) (tn : Tok) (c : Nat), nw = (D, listOf dv.toArray c) :: news ∧ m' "number" = some (.int n' tn) ∧ m' "digits" = some (.ref D) ∧ IntsAre dv d ∧
      octL k n' d = octF n ∧ n' < 64 ^ (k + 1) ∧ dv.length + k ≤ 104)
    (n₀ := 4) F3 N3 ⟨n, [((n % 64 : Nat) : Int)], [Value.int ((n % 64 : Nat) : Int) _], _, 0, rfl, rfl, rfl, .cons _ _ .nil, octF_eq n, hn, Nat.le_of_ble_eq_true rfl⟩ fun k m5 nw5 h5 tk5 F5 N5 hJ => ?_)
  obtain ⟨n', d, dv, tn, c, rfl, m1, m2, hdv, ho, hlt, hlen⟩ := hJ
  refine wpAny_isTrue_Compare1 (ld F5 m1 (wpAny_Constant_int (gt_int (wpAny_truthy_bool ?_))))
  by_cases hz : (63 : Int) < (n' : Int)
  · rw [decide_eq_true (show (n' : Int) > 63 from hz), if_pos rfl]
    have hz' : 63 < n' := by omega
    cases k with
    | zero => exact absurd hlt (by omega)
    | succ k =>
      rw [octL_go hz'] at ho
      refine wpAny_execs_cons (wpAny_AugAssign_Name (ldn F5 m1 (wpAny_Constant_int (ifloordiv_int (by decide) (stN F5 N5 fun h6 F6 N6 => ?_) (.inl (PyProof.noPylong_small (by omega)))))))
      refine wpAny_execs_cons (wpAny_Expr_any (MethodCall_ (ld F6 m2 (kl_method N6 List.mem_cons_self PySem.F.slot_list_insert PySem.F.type_list_insert ?_))))
      refine PyProof.Rows.callWith_method1 (spliced_more (wpAny_Constant_int (spliced_more (wpAny_BinOp (wpAny_BinOp ?_)))))
      refine ld F6 rfl (wpAny_Constant_int (PyProof.Rows.mod_int (by decide) (wpAny_Constant_int (PyProof.Rows.add_int (spliced_none ?_)))))
      refine kl_insert (l := _ :: dv) F6 N6 (by decide) rfl (.head off3) ?_ fun h7 F7 N7 => ?_
      · show dv.length ≤ sizeLine
        have : 104 ≤ sizeLine := Nat.le_of_ble_eq_true rfl
        omega
      have hlt' : n' / 64 < 64 ^ (k + 1) := by
        refine (Nat.div_lt_iff_lt_mul (by decide)).mpr ?_
        rw [← Nat.pow_succ]; exact hlt
      refine wpAny_execs_nil (WhileStep.intro F7 N7 (Nat.lt_succ_self k) ?_)
      refine ⟨n' / 64, (((n' / 64 % 64 : Nat) : Int) + 64) :: d, Value.int (((n' : Int).fdiv 64).fmod 64 + 64) _ :: dv, _, c + 1, rfl, congrArg (fun x => some (Value.int x _)) (fdiv64 n'), ?_, ?_, ?_, ?_, ?_⟩
      · exact m2
      · exact ia_cons (by rw [fdiv64, fmod64]) hdv
      · exact ho
      · exact hlt'
      show dv.length + 1 + k ≤ 104
      omega
  · rw [decide_eq_false (show ¬ ((n' : Int) > 63) from hz), if_neg Bool.false_ne_true]
    rw [octL_stop (by omega)] at ho
    subst ho
    refine wpAny_execs_cons (wpAny_Return_some (ld F5 m2 ?_))
    refine leaveK_ F5 N5 fun kF kN => ?_
    exact kont D _ _ dv c hdv (by omega) kF kN off3
end
end Mine
end

/-! part M16 -/
section
open PySem PySem.W PyProof.Rows PySem.Calls PyProof.Rows.LCg
namespace Mine
/-- what stays while an exception flies: all but the frames' slots and the exception's own members -/
structure Kp (fs : List Addr) (e : Addr) (h h' : Heap) : Prop where
  ne : e ∉ fs
  ex : ∃ o vs, h.get? e = some o ∧ o.data = .fields vs
  all : ∀ b o, b ≠ e → h.get? b = some o → ∃ sl, h'.get? b = some { o with slots := sl } ∧ (b ∉ fs → ({ o with slots := sl } : Obj) = o)
  there : ∃ o vs, h'.get? e = some o ∧ o.cls = .type "StopIteration" ∧ o.data = .fields vs ∧ vs[2]? = some .none
theorem Kp.step {fs : List Addr} {e : Addr} {h h₁ h₂ : Heap} (x : Kp fs e h h₁) (k : ∀ b o, b ≠ e → h.get? b ≠ none → h₁.get? b = some o → ∃ sl, h₂.get? b = some { o with slots := sl } ∧ (b ∉ fs → ({ o with slots := sl } : Obj) = o))
    (t : ∃ o vs, h₂.get? e = some o ∧ o.cls = .type "StopIteration" ∧ o.data = .fields vs ∧ vs[2]? = some .none) : Kp fs e h h₂ :=
  ⟨x.ne, x.ex, fun b o hb ho => by
    obtain ⟨sl, h1, h2⟩ := x.all b o hb ho
    obtain ⟨sl', h3, h4⟩ := k b _ hb (by rw [ho]; exact fun q => by cases q) h1
    refine ⟨sl', h3, fun hn => ?_⟩
    have q1 := h2 hn
    have q2 := h4 hn
    rw [← q1]
    exact q2, t⟩
theorem Kp.ff {fs : List Addr} {e : Addr} {h h' base : Heap} {l : List Env} (x : Kp fs e h h') (f : h.FunFrames base l) : h'.FunFrames base l :=
  f.of_keeps fun b o ho hn => by
    obtain ⟨oe, vs, he, hd⟩ := x.ex
    obtain ⟨sl, h1, _⟩ := x.all b o (by rintro rfl; rw [he] at ho; cases ho; exact hn vs hd) ho
    exact ⟨_, h1, rfl⟩
/-- the traceback's head -/
structure Tr (fs : List Addr) (e : Addr) (fl : Value) (h h' : Heap) : Prop where
  kp : Kp fs e h h'
  tr : ∃ oe vs T oT ts, h'.get? e = some oe ∧ oe.cls = .type "StopIteration" ∧ oe.data = .fields vs ∧ vs[1]? = some (.ref T) ∧ vs[2]? = some .none ∧ T ≠ e ∧ h.get? T = none ∧ h'.get? T = some oT ∧ oT.data = .fields ts ∧ ts[3]? = some fl

section
variable {M : Model} {A : Around} {E : Value → Shared → Prop} {s : Shared} {env : Env} {outer : List Env} {L e : Addr} {base h : Heap} {fs : List Addr} {Q : Unit → Shared → Prop}
theorem tr_entry {oe : Obj} {vs : Array Value} {head : Value} {hadNext : Bool}
    (hfr : A.frames = some (env :: outer)) (hl : h.FunFrames base (env :: outer)) (hf : env.frame = some L) (hfs : ∀ b ∈ (env :: outer).filterMap (·.frame), b ∈ fs) (K : Kp fs e h s.heap)
    (he : s.heap.get? e = some oe) (hc : oe.cls = .type "StopIteration") (hd : oe.data = .fields vs) (hsz : 1 < vs.size) (h2 : vs[2]? = some .none)
    (hQ : ∀ h', Tr fs e (rawInt L) h h' → Q () { s with heap := h' }) :
    wpAny M A (do let a ← frameOf env; let pl ← entryPlaceOf L hadNext; let b ← EntryCells.newEntry head a .none (rawInt L) .none pl; setField (.ref e) 1 b) Q E s := by
  refine wpAny_bind (wpAny_frameOf_fun hfr (K.ff hl) hf fun h₁ hs₁ => ?_)
  have he₁ : h₁.get? e = some oe := (hs₁.2.1 e fun q => K.ne (hfs e q)).trans he
  have K₁ : Kp fs e h h₁ := K.step (fun b o hb hn ho => by
    by_cases q : b ∈ (env :: outer).filterMap (·.frame)
    · obtain ⟨sl, x⟩ := hs₁.2.2 b o ho
      exact ⟨sl, x, fun hn => absurd (hfs b q) hn⟩
    · exact ⟨o.slots, (hs₁.2.1 b q).trans ho, fun _ => rfl⟩) ⟨oe, vs, he₁, hc, hd, h2⟩
  refine wpAny_bind (wpAny_entryPlaceOf fun pl hpl => ?_)
  unfold EntryCells.newEntry newFields
  refine wpAny_bind (wpAny_newObj_type ?_ (hpl.sizeOk5 _ _ _ _ _))
  have he₂ := Heap.get?_push_of_some (h := h₁) { cls := .type "traceback", dict := none, data := .fields ([head, .ref L, .none, rawInt L, .none] ++ (if pl.isEmpty then List.replicate 6 Value.none else pl)).toArray } he₁
  refine wpAny_setField he₂ hd hsz (hQ _ ?_)
  have hTe : h₁.objs.size ≠ e := Nat.ne_of_gt (Heap.lt_size he₁)
  have hd₃ := Obj.data_mapFields hd (·.setIfInBounds 1 (Value.ref h₁.objs.size))
  have he₃ := Heap.get?_update_self (Obj.mapFields (·.setIfInBounds 1 (Value.ref h₁.objs.size))) he₂ (Obj.isFreed_of_fields hd₃)
  have hT₃ := (Heap.get?_update_other (h₁.push { cls := .type "traceback", dict := none, data := .fields ([head, .ref L, .none, rawInt L, .none] ++ (if pl.isEmpty then List.replicate 6 Value.none else pl)).toArray })
    (Obj.mapFields (·.setIfInBounds 1 (Value.ref h₁.objs.size))) (Ne.symm hTe)).trans (Heap.get?_push_size h₁ rfl)
  have v2 : (vs.setIfInBounds 1 (Value.ref h₁.objs.size))[2]? = some .none := by rw [Array.getElem?_setIfInBounds_ne (by decide)]; exact h2
  have hc₃ : (oe.mapFields (·.setIfInBounds 1 (Value.ref h₁.objs.size))).cls = .type "StopIteration" := (Obj.cls_mapFields _ _).trans hc
  refine ⟨K₁.step (fun b o hb hn ho => ⟨o.slots, ?_, fun _ => rfl⟩) ⟨_, _, he₃, hc₃, hd₃, v2⟩, _, _, h₁.objs.size, _, _, he₃, hc₃, hd₃, by simp [hsz], v2, hTe, ?_, hT₃, rfl, ?_⟩
  · rw [Heap.get?_update_other _ _ (Ne.symm hb)]
    exact Heap.get?_push_of_some _ ho
  · cases q : h.get? h₁.objs.size with
    | none => rfl
    | some o =>
      obtain ⟨sl, x, _⟩ := K₁.all _ o hTe q
      exact absurd (Heap.lt_size x) (Nat.lt_irrefl _)
  · first | (simp; done) | (rcases hpl with rfl | ⟨_, _, _, _, _, _, _, rfl⟩ <;> simp)

theorem tr_first (hfr : A.frames = some (env :: outer)) (hl : h.FunFrames base (env :: outer)) (hf : env.frame = some L) (hfs : ∀ b ∈ (env :: outer).filterMap (·.frame), b ∈ fs) (K : Kp fs e h s.heap)
    {oe : Obj} {vs : Array Value} (he : s.heap.get? e = some oe) (hc : oe.cls = .type "StopIteration") (hd : oe.data = .fields vs) (h1 : vs[1]? = some .none) (h2 : vs[2]? = some .none)
    (hQ : ∀ h', Tr fs e (rawInt L) h h' → Q () { s with heap := h' }) : wpAny M A (noteFrame (.ref e) env) Q E s := by
  unfold noteFrame
  simp only [hf]
  refine wpAny_bind (wpAny_field he hd h1 ?_)
  rw [if_neg (by decide)]
  exact tr_entry hfr hl hf hfs K he hc hd (Array.getElem?_eq_some_iff.mp h1).1 h2 hQ

theorem tr_next (hfr : A.frames = some (env :: outer)) (hl : h.FunFrames base (env :: outer)) (hf : env.frame = some L) (hfs : ∀ b ∈ (env :: outer).filterMap (·.frame), b ∈ fs) (K : Tr fs e .none h s.heap)
    (hQ : ∀ h', Tr fs e (rawInt L) h h' → Q () { s with heap := h' }) : wpAny M A (noteFrame (.ref e) env) Q E s := by
  obtain ⟨kp, oe, vs, T, oT, ts, he, hc, hd, h1, h2, hTe, hnT, hT, hdT, h3⟩ := K
  unfold noteFrame
  simp only [hf]
  refine wpAny_bind (wpAny_field he hd h1 ?_)
  rw [if_pos (show (Value.ref T != Value.none) = true from by simp)]
  refine wpAny_bind (wpAny_field hT hdT h3 ?_)
  rw [if_neg (show ¬ ((Value.none == rawInt L) = true) from by simp [rawInt])]
  refine wpAny_bind (wpAny_setField hT hdT (Array.getElem?_eq_some_iff.mp h3).1 ?_)
  have other : ∀ b, b ≠ T → (s.heap.update T (Obj.mapFields (·.setIfInBounds 3 Value.none))).get? b = s.heap.get? b := fun b hb => Heap.get?_update_other _ _ (Ne.symm hb)
  have he' := (other e (Ne.symm hTe)).trans he
  refine tr_entry hfr hl hf hfs (kp.step (fun b o hb hn ho => ⟨o.slots, (other b ?_).trans ho, fun _ => rfl⟩) ⟨oe, vs, he', hc, hd, h2⟩) he' hc hd (Array.getElem?_eq_some_iff.mp h1).1 h2 hQ
  rintro rfl
  exact hn hnT

theorem tr_flight {fl : Value} (K : Tr fs e fl h s.heap) (hQ : ∀ h', Tr fs e .none h h' → Q () { s with heap := h' }) : wpAny M A (setFlight (.ref e) none) Q E s := by
  obtain ⟨kp, oe, vs, T, oT, ts, he, hc, hd, h1, h2, hTe, hnT, hT, hdT, h3⟩ := K
  have hsz3 : 3 < ts.size := (Array.getElem?_eq_some_iff.mp h3).1
  unfold setFlight
  refine wpAny_bind (wpAny_field he hd h1 ?_)
  rw [if_pos (show (Value.ref T != Value.none) = true from by simp)]
  have other : ∀ b, b ≠ T → (s.heap.update T (Obj.mapFields (·.setIfInBounds 3 ((none : Option Addr).elim Value.none fun f => rawInt f)))).get? b = s.heap.get? b :=
    fun b hb => Heap.get?_update_other _ _ (Ne.symm hb)
  refine wpAny_setField hT hdT hsz3 (hQ _ ?_)
  have he' := (other e (Ne.symm hTe)).trans he
  refine ⟨kp.step (fun b o hb hn ho => ⟨o.slots, (other b ?_).trans ho, fun _ => rfl⟩) ⟨oe, vs, he', hc, hd, h2⟩, oe, vs, T, _, _, he', hc, hd, h1, h2, hTe, hnT, Heap.get?_update_self _ hT (Obj.isFreed_of_fields (Obj.data_mapFields hdT _)), Obj.data_mapFields hdT _, by simp [hsz3]⟩
  rintro rfl
  exact hn hnT
end

section
variable {w : World} {A A₀ : Around} {s : Shared} {h₀ base h : Heap} {L e : Addr} {m : Str → Option Value} {news : List (Addr × Obj)} {env : Env} {outer : List Env} {fs : List Addr} {fl : Value}
/-- the ground behind the catch -/
theorem tr_ground {h' : Heap} (B : Below A₀ base outer h₀) (F : Fr h₀ L h m) (N : News h₀ L h news) (hf : env.frame = some L) (K : Kp fs e h h') (hfs : ∀ b ∈ fs, b ∈ (env :: outer).filterMap (·.frame) ∨ (h₀.get? b = none ∧ ∀ p ∈ news, p.1 ≠ b))
    (hfs' : ∀ b ∈ (env :: outer).filterMap (·.frame), b ∈ fs) (e0 : h₀.get? e = none) (en : ∀ p ∈ news, p.1 ≠ e) :
    ∃ g', KtsTurn (outer.filterMap (·.frame)) h₀ g' ∧ Fr g' L h' m ∧ Below A₀ base outer g' ∧ News g' L h' news ∧ g'.get? e = none ∧ e ≠ L := by
  have hLfs : L ∈ fs := hfs' L (by rw [List.filterMap_cons, hf]; exact List.mem_cons_self)
  have eL : e ≠ L := by rintro rfl; exact K.ne hLfs
  have hout : ∀ b ∈ outer.filterMap (·.frame), b ∈ fs := fun b hb => hfs' b (by rw [List.filterMap_cons, hf]; exact List.mem_cons_of_mem _ hb)
  have kee : ∀ b o, h.get? b = some o → b ≠ e → b ∉ fs → h'.get? b = some o := fun b o ho hb hn => by
    obtain ⟨sl, x, y⟩ := K.all b o hb ho
    rw [y hn] at x
    exact x
  have nL : h₀.get? L = none := kts_self F
  obtain ⟨T, S⟩ := kts_turn_at (h := h') (fs := outer.filterMap (·.frame)) (g := h₀)
    (fun b hb => by
      obtain ⟨_, o, ho, _⟩ := B.frames.mem hb
      exact ⟨o, ho⟩)
    (fun b o ho nm => kee b o (F.keep b o ho) (by rintro rfl; rw [e0] at ho; cases ho) (fun q => by
      rcases hfs b q with q | q
      · rw [List.filterMap_cons, hf] at q
        rcases List.mem_cons.mp q with q | q
        · rw [q, nL] at ho; cases ho
        · exact nm q
      · rw [q.1] at ho; cases ho))
    (fun b o ho hm => by
      obtain ⟨sl, x, _⟩ := K.all b o (by rintro rfl; exact K.ne (hout _ hm)) (F.keep b o ho)
      exact ⟨sl, x⟩)
  refine ⟨_, T, ⟨?_, S, by rw [T.size]; exact F.above⟩, ⟨B.stack, fun b o ho => T.other b o (B.stays b o ho) (fun hm => by
    rw [(B.frames.mem hm).1] at ho
    cases ho), B.frames.of_keeps fun b o ho _ => ?_⟩, fun p hp => ⟨?_, (N p hp).2.1, T.none_ _ (N p hp).2.2⟩, T.none_ _ e0, eL⟩
  · obtain ⟨o, es, ep, ho, hd, r⟩ := F.ns
    obtain ⟨sl, x, _⟩ := K.all L o (Ne.symm eL) ho
    exact ⟨_, es, ep, x, hd, r⟩
  · obtain ⟨sl, hs⟩ := T.up ho
    exact ⟨_, hs, rfl⟩
  · refine kee _ _ (N p hp).1 (en p hp) fun q => ?_
    rcases hfs _ q with q | q
    · rw [List.filterMap_cons, hf] at q
      rcases List.mem_cons.mp q with q | q
      · exact (N p hp).2.1 q
      · obtain ⟨_, o, ho, _⟩ := B.frames.mem q
        rw [(N p hp).2.2] at ho; cases ho
    · exact q.2 p hp rfl
end
end Mine
end

/-! part M17 -/
section
open PySem PySem.W PyProof.Rows PySem.Calls PyProof.Rows.LCg
namespace Mine
theorem nm_stop (w : World) : nsIn (KW w.params) mainGlobals "StopIteration" = some none := by kernel_rfl
theorem bb_stop : bootBuiltins "StopIteration" = some (.type "StopIteration") := by kernel_rfl
theorem stop_exc : isSubtype (.type "StopIteration") (.type "BaseException") = pure true := by rw [isSubtype_type]; kernel_rfl
theorem stop_meta : isSubtype (.type ((Manifest.find? "StopIteration").elim "type" fun x => x.metatype)) (.type "tuple") = pure false := by
  rw [show ((Manifest.find? "StopIteration").elim "type" fun x => x.metatype) = "type" from by kernel_rfl, isSubtype_type]; kernel_rfl
theorem stop_self : isSubtype (.type "StopIteration") (.type "StopIteration") = pure true := by rw [isSubtype_type]; kernel_rfl
section
variable {w : World} {A A₀ : Around} {E : Value → Shared → Prop} {s : Shared} {h₀ base : Heap} {L : Addr} {m : Str → Option Value} {news : List (Addr × Obj)} {mean : ExcName → Option Value} {mg mb : Str → Option Value}
  {env : Env} {outer : List Env}
theorem varint_stop {Q : Value → Shared → Prop} {I l : Addr} {oI oA : Obj} {vs : List Value} {i : Nat} (hh : A.handled = none)
    (B : Below A₀ base outer h₀) (F : Fr h₀ L s.heap m) (N : News h₀ L s.heap ((I, oI) :: news)) (off : ∀ p ∈ news, p.1 ≠ I) (G : Gd w mean mg mb h₀)
    (hA : A.frames = some (env :: outer)) (hf : env.frame = some L) (hke : env.scope.kind = .function) (hroom : A.depth + 5 < recursionLimit)
    (hI : LI oI l i) (hl : (l, oA) ∈ news) (hoA : LO oA vs) (hx : vs[i]? = none)
    (hE : ∀ h h' tk e Lv, Fr h₀ L h m → News h₀ L h news → h₀.get? e = none → (∀ p ∈ news, p.1 ≠ e) → (h₀.get? Lv = none ∧ ∀ p ∈ news, p.1 ≠ Lv) → Tr (Lv :: (env :: outer).filterMap (·.frame)) e .none h h' → E (.ref e) { s with heap := h', toks := tk }) :
    wpAny (model PW w) A (call (.ref 28) [.ref I]) Q E s := by
  refine wpAny_call ?_
  refine code_def (K := KW w.params) (name := "_parse_varint") (qual := "_parse_varint") (params := pickA 4 rfl) (body := pickB 4 rfl) (scope := pickS 4 rfl) B F G.K N G.T hA hf hke (look28 w) (code27 w) (by omega)
    (binds := [("iterator", .ref I)]) (BindsTo.of_eq rfl) (locs rfl) (fun g L' h₁ FG F1 N1 B1 X1 T1 => ?_) rfl rfl rfl (by decide)
  refine wpAny_execs_cons (wpAny_Assign_Name (Call_ (name_B F1 X1 (topRead_of T1) (nm_next w) bb_next (by decide) (PyProof.Rows.callWith_builtin1 (spliced_more (ld F1 rfl (spliced_none ?_)))))))
  refine next_end_N hh F1 N1 off hI hl hoA hx fun h2 h3 e F2 N2 hx => ?_
  have BP := pushX (env := pvE L') B1 F2 rfl rfl
  obtain ⟨oe, tp, he, hc, hd⟩ := hx.there
  have hfl : ((pvE L') :: env :: outer).filterMap (·.frame) = L' :: (env :: outer).filterMap (·.frame) := rfl
  have K : Kp (L' :: (env :: outer).filterMap (·.frame)) e h3 h3 := ⟨fun q => (by
    obtain ⟨_, o, ho, _⟩ := BP.frames.mem (b := e) (hfl ▸ q)
    rw [hx.new] at ho; cases ho), ⟨oe, _, he, hd⟩, fun b o _ ho => ⟨o.slots, ho, fun _ => rfl⟩, ⟨oe, _, he, hc, hd, rfl⟩⟩
  have FF : h3.FunFrames base (pvE L' :: env :: outer) := BP.frames.of_keeps fun b o ho _ => ⟨o, hx.keeps b o ho, rfl⟩
  show wpAny _ _ (leaving (pvE L') (.ref e)) _ _ _
  unfold leaving
  refine wpAny_bind (tr_first (h := h3) (base := base) BP.stack FF rfl (fun b hb => hb) K he hc hd rfl rfl fun h4 T4 => ?_)
  refine tr_flight T4 fun h5 T5 => ?_
  have k13 : ∀ b o, g.get? b = some o → h3.get? b = some o := fun b o ho => hx.keeps b o (F2.keep b o ho)
  obtain ⟨oL, es, ep, hL, _⟩ := FG.ns
  refine hE h3 h5 _ e L' (FG.keeps k13) (fun p hp => ⟨hx.keeps _ _ (N2 p hp).1, fun q => ?_, ?_⟩) ?_ (fun p hp q => ?_) ⟨?_, fun p hp => (N2 p hp).2.1⟩ T5
  · have := (N2 p hp).2.2; rw [q, hL] at this; cases this
  · cases q : h₀.get? p.1 with
    | none => rfl
    | some o => have := (N2 p hp).2.2; rw [FG.keep _ _ q] at this; cases this
  · cases q : h₀.get? e with
    | none => rfl
    | some o => have := F2.keep _ _ (FG.keep _ _ q); rw [hx.new] at this; cases this
  · have := (N2 p hp).1; rw [q, hx.new] at this; cases this
  · cases q : h₀.get? L' with
    | none => rfl
    | some o => have := kts_self F1; rw [FG.keep _ _ q] at this; cases this

theorem caught_stop {name : Str} {scope : Scope} {a e Lv : Addr} {cd : Value} {cl : List (Str × Addr)} {np pos : Pos} {b₀ : Stmt} {suite : List Stmt} {rest : List ExceptHandler} {Q : Flow → Shared → Prop} {h : Heap}
    (B : Below A₀ base outer h₀) (F : Fr h₀ L h m) (N : News h₀ L h news) (e0 : h₀.get? e = none) (en : ∀ p ∈ news, p.1 ≠ e) (hv : h₀.get? Lv = none ∧ ∀ p ∈ news, p.1 ≠ Lv)
    (K : Tr (Lv :: (envX name scope L a cd cl :: outer).filterMap (·.frame)) e .none h s.heap) (Gb : Gd w mean mg mb base) (hk : scope.kind = .function) (hxk : (envX name scope L a cd cl).kindOf "StopIteration" = some .globalImplicit)
    (k : ∀ h' g' oe vs, KtsTurn (outer.filterMap (·.frame)) h₀ g' → Fr g' L h' m → News g' L h' ((e, oe) :: news) → oe.data = .fields vs → vs[2]? = some .none → Below A₀ base outer g' → Gd w mean mg mb g' →
      ∀ E' : Value → Shared → Prop, wpAny (model PW w) ((A₀.deeper (envX name scope L a cd cl)).mark (some (.ref e))) (execs (b₀ :: suite) (envX name scope L a cd cl)) Q E' { s with heap := h' }) :
    wpAny (model PW w) (A₀.deeper (envX name scope L a cd cl)) (noteFrame (.ref e) (envX name scope L a cd cl))
      (fun _ s₂ => wpAny (model PW w) (A₀.deeper (envX name scope L a cd cl)) (setFlight (.ref e) none) (fun _ s₃ =>
        wpAny (model PW w) (A₀.deeper (envX name scope L a cd cl)) (handleBy (.ref e) (envX name scope L a cd cl) (.ExceptHandler (some (.Name "StopIteration" np)) none (b₀ :: suite) pos :: rest)) Q E s₃) E s₂) E s := by
  have BP := pushX (env := envX name scope L a cd cl) B F rfl hk
  have hfs' : ∀ b ∈ (envX name scope L a cd cl :: outer).filterMap (·.frame), b ∈ Lv :: (envX name scope L a cd cl :: outer).filterMap (·.frame) := fun b hb => List.mem_cons_of_mem _ hb
  have hfs : ∀ b ∈ Lv :: (envX name scope L a cd cl :: outer).filterMap (·.frame), b ∈ (envX name scope L a cd cl :: outer).filterMap (·.frame) ∨ (h₀.get? b = none ∧ ∀ p ∈ news, p.1 ≠ b) := fun b hb => by
    rcases List.mem_cons.mp hb with rfl | hb
    · exact .inr hv
    · exact .inl hb
  refine tr_next (h := h) (base := base) BP.stack BP.frames rfl hfs' K fun h1 K1 => ?_
  refine tr_flight K1 fun h2 K2 => ?_
  obtain ⟨g2, T2, F2, B2, N2, _, _⟩ := tr_ground B F N rfl K2.kp hfs hfs' e0 en
  obtain ⟨oe, vs, he, hc, hd, hv2⟩ := K2.kp.there
  refine wpAny_handleBy_builtin (X := "StopIteration") (T := "StopIteration") (b := true) stop_exc stop_meta stop_self ?_
  refine nameX_B F2 (Gb.K.keeps B2.stays) (topRead_of (Gb.T.keeps B2.stays)) (nm_stop w) bb_stop (by decide) ⟨rfl, ⟨oe, he, hc⟩, ?_⟩ hk hxk (by decide)
  rw [if_pos rfl]
  refine tr_flight K2 fun h3 K3 => ?_
  obtain ⟨g3, T3, F3, B3, N3, n3, eL⟩ := tr_ground B F N rfl K3.kp hfs hfs' e0 en
  obtain ⟨oe3, vs3, he3, hc3, hd3, hv3⟩ := K3.kp.there
  exact k h3 g3 oe3 vs3 T3 F3 (News.more1 he3 ⟨eL, n3⟩ N3) hd3 hv3 B3 ⟨Gb.K.keeps B3.stays, Gb.T.keeps B3.stays⟩ _
end
end Mine
end

/-! part M18 -/
section
open PySem PySem.W PyProof.Rows PySem.Calls PyProof.Rows.LCg
namespace Mine
theorem unchain_entry : entryFor table "proto.unchain" = some Builtin.«proto.unchain» := entryFor_of_tree (by kernel_rfl)
/-- nothing is handled, or an exception that came of nothing -/
noncomputable def Calm (A : Around) (news : List (Addr × Obj)) : Prop := A.handled = none ∨ ∃ e oe vs, A.handled = some (.ref e) ∧ (e, oe) ∈ news ∧ oe.data = .fields vs ∧ vs[2]? = some .none
section
variable {w : World} {A : Around} {E : Value → Shared → Prop} {s : Shared} {h₀ : Heap} {L : Addr} {m : Str → Option Value} {env : Env} {news : List (Addr × Obj)}
theorem next_str_end {it : Addr} {x : Str} {t : Tok} {i : Nat} {Q : Option Value → Shared → Prop} (hh : Calm A news) (N : News h₀ L s.heap news) (off : ∀ p ∈ news, p.1 ≠ it)
    (hit : s.heap.IsStrIter it "str_ascii_iterator" x t i) (hx : x.cps[i]? = none)
    (hQ : ∀ h', Heap.ExtBut it s.heap h' → Q none { s with heap := h' }) : wpAny (model PW w) A (pyNext (.ref it)) Q E s := by
  rcases hh with hh | ⟨e, oe, vs, hh, hm, hde, hv2⟩
  · exact wpAny_pyNext_ascii_end hh hit hx hQ
  obtain ⟨o, ho, hc, hd⟩ := id hit
  unfold pyNext
  refine wpAny_bind (wpAny_attempt (wpAny_callSpecial?_slot (name := Str.ofString "__next__") hit.typeIs F.slot_str_ascii_iterator_next
    (wpAny_call_entry F.slot_str_ascii_iterator_next hit.typeIs F.entry_str_ascii_iterator_next ?_ (F.args_str_ascii_iterator_next_1 _))))
  show wpAny _ _ (field (.ref it) 0 >>= _) _ _ s
  refine wpAny_bind (wpAny_field ho hd (x := .str x t) rfl ?_)
  show wpAny _ _ (field (.ref it) 1 >>= _) _ _ s
  refine wpAny_bind (wpAny_field ho hd (x := .int i 0) rfl ?_)
  simp only [Int.toNat_natCast, hx]
  refine wpAny_bind (wpAny_rule (wpAny_bind (wpAny_setField ho hd (by simp) (wpAny_bind (wpAny_letGo ?_)))))
  have hs : Heap.SameBut it s.heap (s.heap.update it (Obj.mapFields (·.setIfInBounds 0 .none))) := Heap.SameBut.update ..
  have he : (s.heap.update it (Obj.mapFields (·.setIfInBounds 0 .none))).get? e = some oe := hs.extBut _ _ (off _ hm) (N _ hm).1
  show wpAny _ _ (newExc (.type "StopIteration") [] >>= _) _ _ _
  refine wpAny_bind ?_
  simp only [newExc, newTuple]
  refine wpAny_bind (wpAny_newObj_type ?_ (by size_fits))
  refine wpAny_bind (m := firstArgMember _ _) (wpAny_of_eq (a := Value.none) (by first | rfl | (simp only [firstArgMember]; rfl)) ?_)
  refine wpAny_newObj_type ?_ (by size_fits)
  simp only [raiseNew]
  refine wpAny_bind (wpAny_handled ?_)
  rw [show A.in1.handled = some (.ref e) from hh]
  dsimp only
  generalize hH2 : (s.heap.update it (Obj.mapFields (·.setIfInBounds 0 .none))).push { cls := .type "tuple", data := .seq ([] : List Value).toArray } = H2
  have he2 : H2.get? e = some oe := by rw [← hH2]; exact Heap.get?_push_of_some _ he
  have hne : (Value.ref e != Value.ref H2.objs.size) = true := by
    have := Heap.lt_size he2
    simp only [bne_iff_ne, ne_eq, Value.ref.injEq]
    exact fun q => absurd this (by rw [q]; exact Nat.lt_irrefl _)
  rw [if_pos hne]
  have he3 := Heap.get?_push_of_some (h := H2) { cls := .type "StopIteration", data := .fields (#[Value.ref (s.heap.update it (Obj.mapFields (·.setIfInBounds 0 .none))).objs.size, .none, .none, .none, .bool false, .none] ++ ownMembersOf (.type "StopIteration") []) } he2
  refine wpAny_bind (wpAny_holding (wpAny_runValue (codeAny_builtin unchain_entry ?_)))
  unfold Builtin.«proto.unchain»
  dsimp only
  refine wpAny_bind (wpAny_field he3 hde hv2 ?_)
  rw [if_pos (by rfl)]
  refine wpAny_bind (wpAny_pure (wpAny_pure ?_))
  dsimp only
  have hx3 := Heap.get?_push_size H2 (o := { cls := .type "StopIteration", data := .fields (#[Value.ref (s.heap.update it (Obj.mapFields (·.setIfInBounds 0 .none))).objs.size, .none, .none, .none, .bool false, .none] ++ ownMembersOf (.type "StopIteration") []) }) rfl
  unfold updateField
  refine wpAny_bind (wpAny_bind (wpAny_load hx3 ?_))
  dsimp only
  rw [if_pos (by simp [own_stop])]
  refine wpAny_update hx3 (wpAny_throw ?_)
  have hx4 := Heap.get?_update_self (Obj.mapFields (·.setIfInBounds 2 (Value.ref e))) hx3 (by simp [Obj.mapFields, Obj.isFreed])
  refine wpAny_bind (wpAny_isInstance (T := "StopIteration") (b := true) ⟨_, hx4, rfl⟩ isSubtype_stop ?_)
  refine wpAny_pure (hQ _ fun b o hb ho => ?_)
  have hb2 : H2.get? b = some o := by rw [← hH2]; exact Heap.get?_push_of_some _ (hs.extBut _ _ hb ho)
  rw [Heap.get?_update_other _ _ (Nat.ne_of_gt (Heap.lt_size hb2))]
  exact Heap.get?_push_of_some _ hb2
end
end Mine
end

/-! part M19 -/
section
open PySem PySem.W PyProof.Rows PySem.Calls PyProof.Rows.LCg
namespace Mine
noncomputable abbrev siO (x : Str) (t : Tok) (i : Nat) : Obj := { cls := .type "str_ascii_iterator", data := .fields #[.str x t, .int i 0] }
noncomputable def SI (o : Obj) (x : Str) (t : Tok) (i : Nat) : Prop := o.cls = .type "str_ascii_iterator" ∧ o.data = .fields #[.str x t, .int i 0]
theorem SI.at {o : Obj} {x : Str} {t : Tok} {i : Nat} {h : Heap} {a : Addr} (y : SI o x t i) (e : h.get? a = some o) : h.IsStrIter a "str_ascii_iterator" x t i := ⟨o, e, y.1, y.2⟩
section
variable {w : World} {A : Around} {E : Value → Shared → Prop} {s : Shared} {h₀ : Heap} {L : Addr} {m : Str → Option Value} {env : Env} {news : List (Addr × Obj)}
/-- over a text, one name -/
theorem comp_str {use : Option (Value → Sem Unit)} {elt iter : PySem.Expr} {x : Str} {px : Pos} {scope : Scope} {cl : List (Str × Addr)} {pos : Pos} {tx : Str} {tt : Tok} {Q : Value → Shared → Prop} {V : Nat → List Value → Prop}
    (hh : Calm A news) (hkind : scope.kind = .function) (hcell : ∀ y ∈ scope.names, y.2 ≠ .cell) (hx : scope.names.lookup x = some .local) (hasc : tx.cps.all (· < 128) = true)
    (F : Fr h₀ L s.heap m) (N : News h₀ L s.heap news) (hsz : tx.cps.size ≤ sizeLine) (hV0 : V 0 []) (hVl : ∀ i ys, V i ys → ys.length = i)
    (elt_ : ∀ i ys h tk C oC mC own c u, tx.cps[i]? = some c → V i ys → Fr h₀ L h m → News h₀ L h ((C, oC) :: (own ++ news)) → NsObj oC mC → mC x = some (.str ⟨#[c]⟩ u) → ∀ E' : Value → Shared → Prop,
      wpAny (model PW w) A (eval elt (compEnvC scope cl C env)) (fun y s₄ => ∃ h' tk', s₄ = { s with heap := h', toks := tk' } ∧ Fr h₀ L h' m ∧ News h₀ L h' ((C, oC) :: (own ++ news)) ∧ V (i + 1) (ys ++ [y])) E'
        { s with heap := h, toks := tk })
    (hQ : ∀ C oC mC D h tk ys, V tx.cps.size ys → Fr h₀ L h m → News h₀ L h ((C, oC) :: (D, lst ys) :: news) → NsObj oC mC → Off2 C D news → C ≠ D → compPost (model PW w) A E use Q (.ref D) C (.ok .next) { s with heap := h, toks := tk }) :
    wpAny (model PW w) A (pyIter (.str tx tt)) (fun it s₂ =>
      wpAny (model PW w) A (newList []) (fun acc s₃ => wpAny (model PW w) A (newFunctionEnv scope env.globals cl [] env.qual none .none (some env)) (fun cenv s₄ =>
        codeAny (model PW w) A (.compStart (.ListComp elt [⟨.Name x px, iter, [], 0⟩] scope pos) 0 it acc { cenv with scope := relabel scope env }) (compPost (model PW w) A E use Q acc cenv.locals) s₄) E s₃) E s₂) E s := by
  refine wpAny_pyIter_ascii hasc ?_
  have F2 := F.push (siO tx tt 0)
  have N2 := N.push F (siO tx tt 0)
  have offI : ∀ p ∈ news, p.1 ≠ s.heap.objs.size := fun p hp => Nat.ne_of_lt (Heap.lt_size (N p hp).1)
  refine comp_block (s := { s with heap := _ }) (n := tx.cps.size) (J := fun k ys nw G => G = s.gens ∧ ∃ oI i, nw = (s.heap.objs.size, oI) :: news ∧ SI oI tx tt i ∧ i + k = tx.cps.size ∧ V i ys)
    (Fin := fun ys nw G => G = s.gens ∧ nw = news ∧ V tx.cps.size ys) hkind hcell F2 N2 ⟨rfl, _, 0, rfl, ⟨rfl, rfl⟩, Nat.zero_add _, hV0⟩ (fun h tk E' Q' Nh hq => ?_) (fun k ys nw G h tk C oC mC D hJ F3 N3 hoC off hCD E' => ?_) (fun ys nw G h tk C oC mC D hJ F3 N3 hoC off hCD E' => ?_)
    (fun C oC mC D h tk G ys nw hfin F4 N4 hoC off hCD => ?_)
  · exact wpAny_pyIter_striter_ascii (i := 0) ⟨_, (Nh _ List.mem_cons_self).1, rfl, rfl⟩ hq
  · obtain ⟨rfl, oI, i, rfl, hI, hik, hV⟩ := hJ
    have zI := N3 _ (List.mem_cons_of_mem _ (List.mem_cons_of_mem _ List.mem_cons_self))
    have hi : i < tx.cps.size := by omega
    have hIC := (off _ List.mem_cons_self)
    refine wpAny_pyNext_ascii_item (hI.at zI.1) (c := tx.cps[i]) (by simp [hi]) fun h5 hit5 hs5 => ⟨_, rfl, ?_⟩
    obtain ⟨oI5, eI5, cI5, dI5⟩ := hit5
    have F5 := F3.change hs5 zI.2.1 zI.2.2
    have N5 : News h₀ L h5 ((C, oC) :: ((D, lst ys) :: (s.heap.objs.size, oI5) :: news)) :=
      News.setAt (own := [(C, oC), (D, lst ys)]) N3 (by intro p hp; simp only [List.mem_cons, List.not_mem_nil, or_false] at hp; exact hp.elim (fun e => e ▸ Ne.symm hIC.1) (fun e => e ▸ Ne.symm hIC.2)) offI hs5 eI5
    show wpAny _ _ (pure ()) _ _ _
    refine wpAny_pure (wpAny_assign_Name (storeC hkind hx F5 N5 hoC (by
      intro p hp
      rcases List.mem_cons.mp hp with rfl | hp
      · exact Ne.symm hCD
      · rcases List.mem_cons.mp hp with rfl | hp
        · exact hIC.1
        · exact (off p (List.mem_cons_of_mem _ hp)).1) fun h6 oC6 F6 N6 hoC6 => ?_))
    refine wpAny_tests_nil ?_
    simp only [if_true]
    refine wpAny_mono (elt_ i ys h6 _ C oC6 _ [(D, lst ys), (s.heap.objs.size, oI5)] tx.cps[i] tk (by simp [hi]) hV F6 N6 hoC6 (if_pos rfl) E') (fun y s₄ h4 => ?_) fun _ _ e => e
    obtain ⟨h7, tk7, rfl, F7, N7, hV7⟩ := h4
    refine ⟨by rw [hVl i ys hV]; omega, h7, tk7, s.gens, (s.heap.objs.size, oI5) :: news, oC6, _, rfl, F7, N7, hoC6, fun p hp => ?_, rfl, oI5, i + 1, rfl, ⟨cI5, dI5⟩, by omega, hV7⟩
    rcases List.mem_cons.mp hp with rfl | hp
    · exact hIC
    · exact off p (List.mem_cons_of_mem _ hp)
  · obtain ⟨rfl, oI, i, rfl, hI, hik, hV⟩ := hJ
    have zI := N3 _ (List.mem_cons_of_mem _ (List.mem_cons_of_mem _ List.mem_cons_self))
    obtain rfl : i = tx.cps.size := by omega
    have hIC := (off _ List.mem_cons_self)
    have Nn : News h₀ L h news := fun p hp => N3 p (List.mem_cons_of_mem _ (List.mem_cons_of_mem _ (List.mem_cons_of_mem _ hp)))
    refine next_str_end hh (s := { s with heap := h, toks := tk }) Nn offI (hI.at zI.1) (by simp) fun h5 he5 => ⟨rfl, h5, tk, s.gens, news, oC, mC, rfl, ?_, ?_, hoC, fun p hp => off p (List.mem_cons_of_mem _ hp), rfl, rfl, hV⟩
    · exact ⟨F3.ns.at' fun o e => he5 _ o (Ne.symm zI.2.1) e, fun b o e => he5 b o (by rintro rfl; rw [zI.2.2] at e; cases e) (F3.keep b o e), F3.above⟩
    · intro p hp
      have q : p ∈ (C, oC) :: (D, lst ys) :: (s.heap.objs.size, oI) :: news := by
        rcases List.mem_cons.mp hp with rfl | hp
        · exact List.mem_cons_self
        · rcases List.mem_cons.mp hp with rfl | hp
          · exact List.mem_cons_of_mem _ List.mem_cons_self
          · exact List.mem_cons_of_mem _ (List.mem_cons_of_mem _ (List.mem_cons_of_mem _ hp))
      refine ⟨he5 _ _ ?_ (N3 p q).1, (N3 p q).2⟩
      rcases List.mem_cons.mp hp with rfl | hp
      · exact Ne.symm hIC.1
      · rcases List.mem_cons.mp hp with rfl | hp
        · exact Ne.symm hIC.2
        · exact offI p hp
  · obtain ⟨rfl, rfl, hV⟩ := hfin
    exact hQ C oC mC D h tk ys hV F4 N4 hoC off hCD
end
end Mine
end

/-! part M20 -/
section
open PySem PySem.W PyProof.Rows PySem.Calls PyProof.Rows.LCg
namespace Mine
open PySem.StrLaws PySem.Builtin.Str in
theorem occ_one_run (x : Str) (c : Nat) : ∀ (n i : Nat) (st : Array Nat × Nat), i + n = x.length + 1 → st.fst.size ≤ i → st.snd ≤ i →
    (forIn (List.range' i n) st (occBody x ⟨#[c]⟩ x.length (x.length + 1))).run.fst.size = st.fst.size + (x.cps.toList.drop i).count c
  | 0, i, st, h, _, _ => by
    have : x.cps.toList.drop i = [] := List.drop_eq_nil_of_le (by simp [Str.length] at h ⊢; omega)
    rw [this]
    rfl
  | n + 1, i, st, h, h1, h2 => by
    rw [List.range'_succ, List.forIn_cons]
    unfold occBody
    have hl : x.cps.toList.length = x.length := by simp [Str.length]
    by_cases hc : x.cps.toList[i]? = some c
    · have hs := (subAt_one x c i).mpr hc
      rw [if_pos ⟨⟨⟨Nat.lt_of_le_of_lt h1 (by omega), h2⟩, hs.1⟩, hs.2⟩]
      refine (occ_one_run x c n (i + 1) _ (by omega) (by simp; omega) (Nat.le_refl _)).trans ?_
      have hd : x.cps.toList.drop i = c :: x.cps.toList.drop (i + 1) := by
        obtain ⟨hi, e⟩ := List.getElem?_eq_some_iff.mp hc
        rw [List.drop_eq_getElem_cons hi, e]
      rw [hd, List.count_cons_self, Array.size_push]
      omega
    · have hs : ¬ (i + (⟨#[c]⟩ : Str).length ≤ x.length ∧ subAt x ⟨#[c]⟩ i = true) := fun q => hc ((subAt_one x c i).mp q)
      rw [if_neg fun q => hs ⟨q.1.2, q.2⟩]
      refine (occ_one_run x c n (i + 1) (st.fst, st.snd) (by omega) (Nat.le_succ_of_le h1) (Nat.le_succ_of_le h2)).trans ?_
      by_cases hi : i < x.cps.toList.length
      · rw [List.drop_eq_getElem_cons hi, List.count_cons_of_ne (fun q => hc (List.getElem?_eq_some_iff.mpr ⟨hi, q⟩))]
      · rw [List.drop_eq_nil_of_le (by omega), List.drop_eq_nil_of_le (by omega)]
theorem count_one (x : Str) (c : Nat) : Txt.count x ⟨#[c]⟩ = ((x.cps.toList.count c : Nat) : Int) := by
  unfold Txt.count
  rw [PySem.StrLaws.occ_eq, Array.length_toList]
  have := occ_one_run x c (x.length + 1 - 0) 0 (#[], 0) (by omega) (Nat.le_refl _) (Nat.le_refl _)
  rw [this]
  simp

section
variable {prog : Program} {w : World} {A₀ A : Around} {s : Shared} {base h₀ : Heap} {L : Addr} {m : Str → Option Value} {env : Env} {news : List (Addr × Obj)} {K : Frag} {p : Program} {loose : List Str} {mean : ExcName → Option Value} {mg mb : Str → Option Value}
  {R : Result → Shared → Prop} {name qual : Str} {params : Arguments} {body : List Stmt} {scope : Scope} {dV kV doc pm cdv ct oc : Value} {an od : Option Addr} {osl : Array (Option Value)} {f : Addr} {args : Args} {binds : List (Str × Value)}
/-- a call of a function with cells that may catch: the caller's frame is known up to its slots -/
theorem code_defT (B : Below A₀ base [] h₀) (F : Fr h₀ L s.heap m) (X₀ : K.In h₀) (N : News h₀ L s.heap news) (T : Top p loose mean mg mb h₀) (hA : A.frames = some [env]) (hf : env.frame = some L) (hke : env.scope.kind = .function)
    (ho : K.lookup f = some ⟨oc, od, .func (fnOf name qual params body scope dV kV doc pm an cdv ct), osl⟩) (hcd : codeIn K cdv qual = true) (hroom : A.depth < recursionLimit)
    (hbind : BindsTo s (fnOf name qual params body scope dV kV doc pm an cdv ct) args binds) (hkind : (binds.all fun y => scope.names.lookup y.1 == some .local || scope.names.lookup y.1 == some .cell) = true)
    (hnd : ((cellsFrom 0 scope.names []).map (·.1)).Nodup)
    (h : ∀ g L' h₁ tk cells, Fr h₀ L g m → Fr g L' h₁ (bindL (envOfC qual scope L' f cdv).kindOf binds fun _ => none) → News g L' h₁ (cells ++ news) →
      CellsAre (bindC (envOfC qual scope L' f cdv).kindOf binds fun _ => none) (cellsFrom (L' + 1) scope.names []) cells → Below A base [env] g → K.In g → Top p loose mean mg mb g → (∀ p ∈ news, p.1 < L') →
      wpAny (model prog w) (A.deeper (envOfC qual scope L' f cdv)) (execs body (envOfC qual scope L' f cdv))
        (fun fl s' => LeaveS0 [L] h₀ L m g R (match fl with | .ret v => v | _ => .none) s')
        (fun e s' => wpAny (model prog w) (A.deeper (envOfC qual scope L' f cdv)) (leaving (envOfC qual scope L' f cdv) e) (fun _ s'' => R (.error e) s'') (fun e' s'' => R (.error e') s'') s')
        { s with heap := h₁, toks := tk })
    (hco : scope.isCoroutine = false) (hgen : scope.isGenerator = false) (hk : scope.kind = .function) : codeAny (model prog w) A (.call (.ref f) args) R s := by
  obtain ⟨FG, BG, st, _⟩ := groundX (R := R) B F N hA hf hke
  have X := X₀.keeps F.keep
  refine codeAny_call_function hroom (X _ _ ho) rfl hco hgen rfl (codeRec_of X hcd) (hbind _ _ _ _ ?_)
  refine wpAny_newFunctionEnv_cells hk (kindsX hkind _) fun env' he s' x => ?_
  subst he
  refine ⟨(T.nolimit.keeps F.keep).keeps x.toInCall.keep, codeAny_func ?_⟩
  obtain ⟨h₁, tk, rfl, _⟩ := x.done
  have hk₁ := x.toInCall.keep
  obtain ⟨cells, NC, Y⟩ := Cl.news (h₀ := s.heap) (Nat.le_refl _) fun n c hm => ⟨x.cell n c (lookup_of_mem_nodup (cellsFrom_names scope.names 0 (s.heap.objs.size + 1) [] [] rfl ▸ hnd) hm), x.above n c hm⟩
  refine wpAny_mono (h _ s.heap.objs.size h₁ tk cells FG ⟨x.toInCall.ns, fun b o e => hk₁ b o (of_hideAll _ e), Nat.le_of_eq (hideAll_size _ _)⟩ (fun p hp => ?_) Y BG (X₀.keeps st) (T.keeps st) (fun p hp => Heap.lt_size (N p hp).1)) (fun fl s' hl => ?_) fun _ _ y => y
  · rcases List.mem_append.mp hp with hp | hp
    · refine ⟨(NC p hp).1, (NC p hp).2.1, ?_⟩
      cases q : (hideAll s.heap (news.map (·.1))).get? p.1 with
      | none => rfl
      | some o => have := of_hideAll _ q; rw [(NC p hp).2.2] at this; cases this
    · exact ⟨hk₁ _ _ (N p hp).1, Nat.ne_of_lt (Heap.lt_size (N p hp).1), hideAll_none _ (List.mem_map_of_mem hp)⟩
  · obtain ⟨g', L', m', news', T', F', N', k⟩ := hl
    obtain ⟨oL, es, ep, hLg, hLd, hLr⟩ := FG.ns
    have nL₀ : h₀.get? L = none := kts_self F
    obtain ⟨sl, hs⟩ := T'.up hLg
    refine k ⟨⟨_, es, ep, F'.keep _ _ hs, hLd, hLr⟩, fun b o e => F'.keep b o (T'.other b o (st b o e) (fun q => by
      rw [List.mem_singleton.mp q, nL₀] at e
      cases e)), F.above⟩ fun p hp => ⟨(N' p hp).1, fun q => ?_, ?_⟩
    · have := (N' p hp).2.2; rw [q, hs] at this; cases this
    · cases q : h₀.get? p.1 with
      | none => rfl
      | some o =>
        obtain ⟨sl', hs'⟩ := T'.up (st _ _ q)
        have := (N' p hp).2.2
        rw [hs'] at this
        cases this
end
end Mine
end

/-! part M21 -/
section
open PySem PySem.W PyProof.Rows PySem.Calls PyProof.Rows.LCg
namespace Mine
/-- what a text's octets tell: the codes, one behind the other -/
inductive Tape : List Int → List Nat → Prop
  | nil : Tape [] []
  | cons {b : Int} {r : List Int} {c k : Nat} {cs : List Nat} : parV r (Builtin.bitAnd b 63) b = some ((c : Int), k) → k ≤ 3 → fine c → c < 0x110000 → (b3F c).cps.size ≤ 9 → Tape (r.drop k) cs → Tape (b :: r) (c :: cs)
theorem Tape.len {ns : List Int} {cs : List Nat} (h : Tape ns cs) : cs.length ≤ ns.length := by
  induction h with
  | nil => exact Nat.le_refl _
  | cons _ _ _ _ _ _ ih =>
    rw [List.length_drop] at ih
    simp only [List.length_cons]
    omega
noncomputable def flat (cs : List Nat) : List Nat := cs.flatMap fun c => (b3F c).cps.toList
theorem flat_snoc (cs : List Nat) (c : Nat) : flat (cs ++ [c]) = flat cs ++ (b3F c).cps.toList := by simp [flat]
/-- how often each of the three signs stands -/
noncomputable def cnt (l : List Nat) : List Int := [((l.count 102 : Nat) : Int), ((l.count 105 : Nat) : Int), ((l.count 108 : Nat) : Int)]

theorem look86 (w : World) : (KW w.params).lookup 86 = some (fnO "_law_votes" (pickA 10 rfl) (pickB 10 rfl) (pickS 10 rfl) md4 85) := by kernel_rfl
theorem code85 (w : World) : codeIn (KW w.params) (.ref 85) "_law_votes" = true := by kernel_rfl
theorem nm_iter (w : World) : nsIn (KW w.params) mainGlobals "iter" = some none := by kernel_rfl
theorem bb_iter : bootBuiltins "iter" = some (.builtin "iter") := by kernel_rfl
theorem nm_len (w : World) : nsIn (KW w.params) mainGlobals "len" = some none := by kernel_rfl
theorem bb_len : bootBuiltins "len" = some (.builtin "len") := by kernel_rfl
theorem nm_chr (w : World) : nsIn (KW w.params) mainGlobals "chr" = some none := by kernel_rfl
theorem bb_chr : bootBuiltins "chr" = some (.builtin "chr") := by kernel_rfl
theorem nm_b3 (w : World) : nsIn (KW w.params) mainGlobals "map_table_b3" = some (some (.ref 74)) := by kernel_rfl
theorem keep74 (w : World) : keepIn (KW w.params) (.ref 74) = true := by kernel_rfl
theorem nm_pv (w : World) : nsIn (KW w.params) mainGlobals "_parse_varint" = some (some (.ref 28)) := by kernel_rfl
theorem keep28 (w : World) : keepIn (KW w.params) (.ref 28) = true := by kernel_rfl
noncomputable abbrev vtE (L' : Addr) : Env := envX "_law_votes" (pickS 10 rfl) L' 86 (.ref 85) [("text", L' + 1)]
theorem str_size (x : Str) : x.length = x.cps.toList.length := by simp [Str.length]
theorem str_of (x y : Str) (h : x.cps.toList = y.cps.toList) : x = y := by
  obtain ⟨⟨a⟩⟩ := x
  obtain ⟨⟨b⟩⟩ := y
  exact congrArg (fun l => (⟨⟨l⟩⟩ : Str)) h
section
variable {w : World} {A A₀ : Around} {E : Value → Shared → Prop} {s : Shared} {h₀ base : Heap} {L : Addr} {m : Str → Option Value} {news : List (Addr × Obj)} {mean : ExcName → Option Value} {mg mb : Str → Option Value}
  {env : Env}
theorem iadd_strL {x y : Str} {t u : Tok} {Q : Value → Shared → Prop} (hs : x.cps.toList.length + y.cps.toList.length ≤ 5000)
    (h : ∀ z t' k, z.cps.toList = x.cps.toList ++ y.cps.toList → Q (.str z t') { s with toks := k }) : wpAny (model PW w) A (inplaceOp .Add (.str x t) (.str y u)) Q E s := by
  have hz : (x ++ y : Str).cps.toList = x.cps.toList ++ y.cps.toList := by show (x.cps ++ y.cps).toList = _; simp
  have h2 : 5000 ≤ sizeLine := Nat.le_of_ble_eq_true rfl
  exact iadd_str (fun t' k => h _ _ _ hz) (by rw [str_size, str_size]; omega)
theorem iter_N {ax : Addr} {oA : Obj} {vs : List Value} {Q : Value → Shared → Prop} (F : Fr h₀ L s.heap m) (N : News h₀ L s.heap news) (ha : (ax, oA) ∈ news) (hoA : LO oA vs)
    (h : ∀ (I : Addr) h' oI, Fr h₀ L h' m → News h₀ L h' ((I, oI) :: news) → (∀ p ∈ news, p.1 ≠ I) → LI oI ax 0 → Q (.ref I) { s with heap := h' }) :
    wpAny (model PW w) A (call (.builtin "iter") [.ref ax]) Q E s := by
  refine call_function_entry (by decide +kernel) (by decide +kernel) kdk_entry_iter (kdk_args_iter _) ?_
  unfold Builtin.«iter»
  refine wpAny_bind (m := someArgs "iter" 1 2 _) (wpAny_of_eq (a := [Value.ref ax]) (by first | rfl | kernel_rfl!) ?_)
  show wpAny _ _ (pyIter (.ref ax) >>= _) _ _ _
  refine wpAny_bind (wpAny_pyIter_list (hoA.at (N _ ha).1) ?_)
  exact wpAny_pure ⟨_, rfl, h _ _ _ (F.push _) (N.push F _) (fun q hq => Nat.ne_of_lt (Heap.lt_size (N q hq).1)) ⟨rfl, rfl⟩⟩
end
end Mine
end

/-! part M22 -/
section
open PySem PySem.W PyProof.Rows PySem.Calls PyProof.Rows.LCg
namespace Mine
section
variable {w : World} {A A₀ : Around} {E : Value → Shared → Prop} {s : Shared} {h₀ base : Heap} {L : Addr} {m : Str → Option Value} {news : List (Addr × Obj)} {mean : ExcName → Option Value} {mg mb : Str → Option Value}
  {env : Env}
theorem fil_at {i c : Nat} (h : (Str.ofString "fil").cps[i]? = some c) (l : List Nat) : (cnt l)[i]? = some ((l.count c : Nat) : Int) := by
  match i, h with
  | 0, h => cases (show (some 102 : Option Nat) = some c from h); rfl
  | 1, h => cases (show (some 105 : Option Nat) = some c from h); rfl
  | 2, h => cases (show (some 108 : Option Nat) = some c from h); rfl
  | i + 3, h => rw [Array.getElem?_eq_none (show (Str.ofString "fil").cps.size ≤ i + 3 from Nat.le_add_left 3 i)] at h; cases h
theorem News.sub {h₀ h : Heap} {L : Addr} {l l' : List (Addr × Obj)} (N : News h₀ L h l) (k : ∀ p ∈ l', p ∈ l) : News h₀ L h l' := fun p hp => N p (k p hp)
set_option maxHeartbeats 1600000 in
theorem votes_call {Q : Value → Shared → Prop} {ax : Addr} {oA : Obj} {vs : List Value} {ns : List Int} {cs : List Nat} (B : Below A₀ base [] h₀) (F : Fr h₀ L s.heap m) (N : News h₀ L s.heap news) (G : Gd w mean mg mb h₀) (Gb : Gd w mean mg mb base)
    (hA : A.frames = some [env]) (hf : env.frame = some L) (hke : env.scope.kind = .function) (hroom : A.depth + 20 < recursionLimit) (hh : A.handled = none)
    (ha : (ax, oA) ∈ news) (hoA : LO oA vs) (hi : IntsAre vs ns) (hT : Tape ns cs) (hbig : ∀ a ∈ ns, 0 ≤ a ∧ a < 128) (hlen : ns.length < 100)
    (kont : ∀ D ys h' tk', IntsAre ys (cnt (flat cs)) → Fr h₀ L h' m → News h₀ L h' ((D, lst ys) :: news) → (∀ p ∈ news, p.1 ≠ D) → Q (.ref D) { s with heap := h', toks := tk' }) :
    wpAny (model PW w) A (call (.ref 86) [.ref ax]) Q E s := by
  refine wpAny_call ?_
  refine code_defT (K := KW w.params) (name := "_law_votes") (qual := "_law_votes") (params := pickA 10 rfl) (body := pickB 10 rfl) (scope := pickS 10 rfl) B F G.K N G.T hA hf hke (look86 w) (code85 w) (by omega)
    (binds := [("octets", .ref ax)]) (BindsTo.of_eq rfl) rfl (by decide) (fun g L' h₁ tk₁ cells FG F1 N1 Y B1 X1 T1 lt1 => ?_) rfl rfl rfl
  refine wpAny_noRaise ?_
  obtain ⟨oc, rfl, hoc⟩ := CellsAre.one (n := "text") (c := L' + 1) Y
  have G1 : Gd w mean mg mb g := ⟨X1, T1⟩
  change wpAny _ _ (execs _ (vtE L')) _ _ _
  have hA' : (A.deeper (vtE L')).frames = some (vtE L' :: env :: []) := Around.frames_deeper B1.stack
  have offc : ∀ p ∈ news, p.1 ≠ L' + 1 := fun p hp => Nat.ne_of_lt (Nat.lt_succ_of_lt (lt1 p hp))
  refine wpAny_execs_cons (wpAny_Assign_Name (Call_ (nameX_B F1 X1 (topRead_of T1) (nm_iter w) bb_iter (by decide) (PyProof.Rows.callWith_builtin1 (spliced_more (nameX_L F1 rfl (spliced_none ?_)))))))
  refine iter_N F1 N1 (List.mem_cons_of_mem _ ha) hoA fun I h2 oI F2 N2 offI hI => storeX_L F2 N2 fun h3 F3 N3 => ?_
  have N3' : News g L' h3 (((L' + 1, oc) : Addr × Obj) :: (I, oI) :: news) := News.swap N3
  have hIc : I ≠ L' + 1 := Ne.symm (offI _ List.mem_cons_self)
  have offn : ∀ p ∈ news, p.1 ≠ I := fun p hp => offI p (List.mem_cons_of_mem _ hp)
  have off3 : ∀ o, ∀ p ∈ ((I, o) :: news : List (Addr × Obj)), p.1 ≠ L' + 1 := fun o p hp => by
    rcases List.mem_cons.mp hp with rfl | hp
    · exact hIc
    · exact offc p hp
  refine wpAny_execs_cons (wpAny_Assign_Name (wpAny_Constant_str (storeX_C F3 N3' rfl (UpdF.head (off3 oI)) hoc fun h4 oc4 F4 N4 hoc4 => ?_)))
  refine wpAny_execs_cons (wpAny_For (Call_ (nameX_B F4 X1 (topRead_of T1) (nm_range w) bb_range (by decide) ?_)))
  refine PyProof.Rows.callWith_type1 (spliced_more (wpAny_BinOp (Call_ (nameX_B F4 X1 (topRead_of T1) (nm_len w) bb_len (by decide) ?_))))
  have ha4 : (ax, oA) ∈ ((L' + 1, oc4) :: (I, oI) :: news : List (Addr × Obj)) := List.mem_cons_of_mem _ (List.mem_cons_of_mem _ ha)
  have hvl : vs.length = ns.length := ia_len hi
  refine PyProof.Rows.callWith_builtin1 (spliced_more (nameX_L F4 rfl (spliced_none (PyProof.Rows.len_list (hoA.at (N4 _ ha4).1) (by simp; omega) ?_))))
  refine wpAny_Constant_int (PyProof.Rows.add_int (spliced_none ?_))
  rw [show ((vs.toArray.size : Nat) : Int) + 1 = ((ns.length + 1 : Nat) : Int) by simp [hvl]]
  refine range1_rows F4 N4 fun h5 tk5 t5 u5 v5 hr F5 N5 k5 => ?_
  refine for_range (n := ns.length + 1) (J := fun i m nw G => G = s.gens ∧ ∃ oc tt tx oI pos, nw = (L' + 1, oc) :: (I, oI) :: news ∧ oc.data = .cell (some (.str tx tt)) ∧ LI oI ax pos ∧ m "tape" = some (.ref I) ∧
      tx.cps.toList = flat (cs.take i) ∧ tx.cps.toList.length ≤ 9 * i ∧ Tape (ns.drop pos) (cs.drop i) ∧ i ≤ cs.length)
    hh rfl rfl rfl F5 N5 hr (by omega) ⟨rfl, oc4, _, _, oI, 0, rfl, hoc4, hI, rfl, rfl, Nat.le_refl _, hT, Nat.zero_le _⟩ (fun i m₁ nw G h tk J t' hin hJ F6 N6 off6 E' => ?_) (fun h tk G m₁ nw hJ F7 N7 => ?_)
  · obtain ⟨rfl, oc6, tt, tx, oI6, pos, rfl, hoc6, hI6, hm1, htx, htl, hTp, hic⟩ := hJ
    have lt2 := hT.len
    refine wpAny_execs_cons (wpAny_Try_except ?_)
    refine wpAny_execs_cons (wpAny_AugAssign_Name (wpAny_loadName_cell rfl rfl rfl ⟨_, (N6 _ (List.mem_cons_of_mem _ List.mem_cons_self)).1, hoc6⟩ ?_))
    refine Call_ (nameX_K F6 X1 (topRead_of T1) (nm_b3 w) (callWith_K X1 (keep74 w) (spliced_more ?_)))
    refine Call_ (nameX_B F6 X1 (topRead_of T1) (nm_chr w) bb_chr (by decide) (PyProof.Rows.callWith_builtin1 (spliced_more ?_)))
    refine Call_ (nameX_K F6 X1 (topRead_of T1) (nm_pv w) (callWith_K X1 (keep28 w) (spliced_more (nameX_L F6 hm1 (spliced_none ⟨X1.keeps F6.keep, ?_⟩)))))
    have N6' : News g L' h (((I, oI6) : Addr × Obj) :: (L' + 1, oc6) :: (J, rI ((i : Int) + 1) (((ns.length + 1 : Nat) : Int) - (i : Int) - 1)) :: news) := News.sub N6 fun p hp => by
      simp only [List.mem_cons] at hp ⊢
      rcases hp with h | h | h | h <;> simp [h]
    have hJc : (L' + 1 : Nat) ≠ J := off6 _ List.mem_cons_self
    have hJI : I ≠ J := off6 _ (List.mem_cons_of_mem _ List.mem_cons_self)
    have offJ : ∀ p ∈ news, p.1 ≠ J := fun p hp => off6 p (List.mem_cons_of_mem _ (List.mem_cons_of_mem _ hp))
    have off7 : ∀ p ∈ ((L' + 1, oc6) :: (J, rI ((i : Int) + 1) (((ns.length + 1 : Nat) : Int) - (i : Int) - 1)) :: news : List (Addr × Obj)), p.1 ≠ I := fun p hp => by
      rcases List.mem_cons.mp hp with rfl | hp
      · exact Ne.symm hIc
      · rcases List.mem_cons.mp hp with rfl | hp
        · exact Ne.symm hJI
        · exact offn p hp
    have hroom' : (A.deeper (vtE L')).depth + 5 < recursionLimit := by
      show A.depth + 1 + 5 < recursionLimit
      omega
    have ha6 : (ax, oA) ∈ ((L' + 1, oc6) :: (J, rI ((i : Int) + 1) (((ns.length + 1 : Nat) : Int) - (i : Int) - 1)) :: news : List (Addr × Obj)) := List.mem_cons_of_mem _ (List.mem_cons_of_mem _ ha)
    generalize hnd : ns.drop pos = nd at hTp
    generalize hcd : cs.drop i = cd at hTp
    cases hTp with
    | @cons b r c k cs' hp hk hfine hchr hsz hrest =>
      refine varint_call B1 F6 N6' off7 G1 hA' rfl rfl hroom' hI6 ha6 hoA hi hnd hp hbig hk fun t7 h7 tk7 o7 F7 N7 hI7 => ?_
      refine spliced_none (P.chr_of_int (by simp; omega) ?_)
      refine spliced_none ⟨X1.keeps F7.keep, ?_⟩
      refine b3_call (n := c) B1 F7 N7 G1 hA' rfl rfl hroom' hfine fun t8 h8 tk8 F8 N8 => ?_
      have hlt : i < cs.length := by
        rcases Nat.lt_or_ge i cs.length with q | q
        · exact q
        · rw [List.drop_eq_nil_of_le q] at hcd; cases hcd
      have hci : cs[i]? = some c := (drop_cons_get hcd).1
      have hbl : (b3F c).cps.toList.length ≤ 9 := by simpa using hsz
      refine iadd_strL (by omega) fun z t9 k9 hz => ?_
      have N8' : News g L' h8 (((L' + 1, oc6) : Addr × Obj) :: (J, rI ((i : Int) + 1) (((ns.length + 1 : Nat) : Int) - (i : Int) - 1)) :: (I, o7) :: news) := News.sub N8 fun p hp => by
        simp only [List.mem_cons] at hp ⊢
        rcases hp with h | h | h | h <;> simp [h]
      refine storeX_C F8 N8' rfl (UpdF.head fun p hp => ?_) hoc6 fun h9 oc9 F9 N9 hoc9 => ?_
      · rcases List.mem_cons.mp hp with rfl | hp
        · exact Ne.symm hJc
        · exact off3 o7 p hp
      refine wpAny_execs_nil (wpAny_execs_nil (wpAny_execs_nil ?_))
      have N9' : News g L' h9 (((J, rI ((i : Int) + 1) (((ns.length + 1 : Nat) : Int) - (i : Int) - 1)) : Addr × Obj) :: (L' + 1, oc9) :: (I, o7) :: news) := News.swap N9
      refine ⟨h9, _, _, _, _, rfl, F9, N9', fun p hp => ?_, rfl, oc9, _, z, o7, pos + 1 + k, rfl, hoc9, hI7, hm1, ?_, ?_, ?_, hlt⟩
      · rcases List.mem_cons.mp hp with rfl | hp
        · exact hJc
        · rcases List.mem_cons.mp hp with rfl | hp
          · exact hJI
          · exact offJ p hp
      · rw [hz, htx, take_snoc hci, flat_snoc]
      · rw [hz, List.length_append]; omega
      · rw [show ns.drop (pos + 1 + k) = r.drop k by rw [← List.drop_drop, (drop_cons_get hnd).2], (drop_cons_get hcd).2]
        exact hrest
    | nil =>
      have hvx : vs[pos]? = none := by
        refine List.getElem?_eq_none ?_
        rw [hvl]
        exact List.drop_eq_nil_iff.mp hnd
      have hcs : cs.take i = cs := List.take_of_length_le (List.drop_eq_nil_iff.mp hcd)
      rw [hcs] at htx
      refine varint_stop hh B1 F6 N6' off7 G1 hA' rfl rfl hroom' hI6 ha6 hoA hvx fun h7 h8 tk8 e Lv F7 N7 e0 en hv K => ?_
      refine caught_stop (s := { s with heap := h8, toks := tk8 }) B1 F7 N7 e0 en hv K Gb rfl rfl fun h9 g9 oe ws T9 F9 N9 hoe hws B9 G9 E9 => ?_
      have T9' : KtsTurn [L] g g9 := by
        have e1 : ([env] : List Env).filterMap (·.frame) = [L] := by rw [List.filterMap_cons, hf]; rfl
        rw [e1] at T9
        exact T9
      have hmt : ((L' + 1 : Nat), oc6) ∈ ((e, oe) :: (L' + 1, oc6) :: (J, rI ((i : Int) + 1) (((ns.length + 1 : Nat) : Int) - (i : Int) - 1)) :: news : List (Addr × Obj)) := List.mem_cons_of_mem _ List.mem_cons_self
      have calm : Calm ((A.deeper (vtE L')).mark (some (.ref e))) ((e, oe) :: (L' + 1, oc6) :: (J, rI ((i : Int) + 1) (((ns.length + 1 : Nat) : Int) - (i : Int) - 1)) :: news : List (Addr × Obj)) := .inr ⟨e, oe, ws, rfl, List.mem_cons_self, hoe, hws⟩
      refine wpAny_execs_cons (wpAny_Return_some (comp_eval (cl := [("text", L' + 1)]) rfl rfl (by decide) (wpAny_Constant_str ?_)))
      refine comp_str (V := fun i ys => IntsAre ys ((cnt (flat cs)).take i) ∧ i ≤ 3) calm rfl (by decide) rfl (by decide +kernel) F9 N9 (Nat.le_of_ble_eq_true rfl) ⟨.nil, Nat.zero_le _⟩ (fun i ys h => ?_) (fun i ys h tk C oC mC own c u hc hV F10 N10 hoC hm E'' => ?_) (fun C oC mC D h tk ys hys F10 N10 hoC off10 hCD => ?_)
      · rw [ia_len h.1, List.length_take]
        show min i 3 = i
        omega
      · have h3 := fil_at hc (flat cs)
        refine MethodCall_ (lcf_cell N10 rfl (List.mem_cons_of_mem _ (List.mem_append_right _ hmt)) hoc6 (GM.count ?_) rfl rfl)
        refine PyProof.Rows.callWith_method1 (spliced_more (ldC rfl rfl N10 hoC hm (spliced_none (SC.count ?_))))
        refine ⟨h, _, rfl, F10, N10, ?_, ?_⟩
        · rw [count_one, htx, take_snoc h3]
          exact ia_snoc hV.1 _ _
        · have := (List.getElem?_eq_some_iff.mp h3).1
          exact this
      · refine end_plain F10 N10 hoC off10 hCD fun h11 F11 N11 => ?_
        have N11' : News g9 L' h11 ((D, lst ys) :: news) := News.sub N11 fun p hp => by
          rcases List.mem_cons.mp hp with h | h
          · rw [h]; exact List.mem_cons_self
          · exact List.mem_cons_of_mem _ (List.mem_cons_of_mem _ (List.mem_cons_of_mem _ (List.mem_cons_of_mem _ h)))
        refine leaveS0_ F11 N11' T9' fun kF kN => ?_
        refine kont D ys _ _ ?_ kF kN fun p hp => (off10 p (List.mem_cons_of_mem _ (List.mem_cons_of_mem _ (List.mem_cons_of_mem _ hp)))).2
        exact hys.1
  · obtain ⟨_, oc7, tt, tx, oI7, pos, rfl, hoc7, hI7, hm1, htx, htl, hTp, hic⟩ := hJ
    have := hT.len
    omega
end
end Mine
end

/-! part M23 -/
section
open PySem PySem.W PyProof.Rows PySem.Calls PyProof.Rows.LCg
namespace Mine
/-- the nine numbers drawn -/
noncomputable def drawnF (ns : List Int) : List Int := ns.take 9 ++ ([3, 12, 7, 0, 9, 5, 6, 10, 7] : List Int).drop ns.length
theorem drawnF_len (ns : List Int) : (drawnF ns).length = 9 := by
  unfold drawnF
  rw [List.length_append, List.length_take, List.length_drop]
  show min 9 ns.length + (9 - ns.length) = 9
  omega
noncomputable def seatsN (ns : List Int) : Nat := (2 + (drawnF ns).sum % 5).toNat
theorem seatsN_eq (ns : List Int) : (2 : Int) + ((drawnF ns).sum).fmod 5 = ((seatsN ns : Nat) : Int) := by
  unfold seatsN
  rw [Int.fmod_eq_emod_of_nonneg _ (by decide)]
  omega
theorem seatsN_lt (ns : List Int) : 2 ≤ seatsN ns ∧ seatsN ns < 7 := by
  unfold seatsN
  omega
noncomputable def codesL : List Int := [70, 73, 76, 64256, 64257, 64258, 64259, 64260, 119813, 119868, 120235, 8497, 8464, 8466]
noncomputable def foldedL : List Str := ["f", "i", "l", "ff", "fi", "fl", "ffi", "ffl", "f", "i", "l", "f", "i", "l"]
noncomputable abbrev lwS : Scope := pickS 13 rfl
noncomputable abbrev lwB : List Stmt := pickB 13 rfl
noncomputable abbrev lwE (L fa : Addr) (cd : Value) : Env := envX "law" lwS L fa cd [("served", L + 1 + 1 + 1 + 1 + 1), ("votes", L + 1 + 1 + 1 + 1), ("text", L + 1 + 1 + 1), ("folded", L + 1 + 1), ("codes", L + 1)]
theorem nm_sum' (w : World) : nsIn (KW w.params) mainGlobals "sum" = some none := nm_sum w
section
variable {w : World} {A A₀ : Around} {E : Value → Shared → Prop} {s : Shared} {h₀ base : Heap} {L : Addr} {m : Str → Option Value} {news : List (Addr × Obj)} {mean : ExcName → Option Value} {mg mb : Str → Option Value}
  {fa : Addr} {cd : Value}
theorem newList_I {vs : List Value} {ns : List Int} {Q : Value → Shared → Prop} (hi : IntsAre vs ns) (F : Fr h₀ L s.heap m) (N : News h₀ L s.heap news) (hz : ns.length ≤ 1000)
    (h : ∀ D h' ws, IntsAre ws ns → Fr h₀ L h' m → News h₀ L h' ((D, listOf (List.toArray ws) 0) :: news) → (∀ p ∈ news, p.1 < D) → Q (.ref D) { s with heap := h' }) : wpAny (model PW w) A (newList vs) Q E s :=
  newList_N F N (fun h' F' N' => h _ h' vs hi F' N' fun p hp => Heap.lt_size (N p hp).1) (by rw [ia_len hi]; exact Nat.le_trans hz (Nat.le_of_ble_eq_true rfl))
theorem newList_S {vs : List Value} {xs : List Str} {Q : Value → Shared → Prop} (hi : StrsAre vs xs) (F : Fr h₀ L s.heap m) (N : News h₀ L s.heap news) (hz : vs.length ≤ 1000)
    (h : ∀ D h' ws, StrsAre ws xs → Fr h₀ L h' m → News h₀ L h' ((D, listOf (List.toArray ws) 0) :: news) → (∀ p ∈ news, p.1 < D) → Q (.ref D) { s with heap := h' }) : wpAny (model PW w) A (newList vs) Q E s :=
  newList_N F N (fun h' F' N' => h _ h' vs hi F' N' fun p hp => Heap.lt_size (N p hp).1) (Nat.le_trans hz (Nat.le_of_ble_eq_true rfl))
inductive CI : List PySem.Expr → List Int → Prop
  | nil : CI [] []
  | cons (n : Int) (k : Nat) (p : Pos) {es : List PySem.Expr} {ns : List Int} : CI es ns → CI (.Constant (.int n) k p :: es) (n :: ns)
inductive CS : List PySem.Expr → List Str → Prop
  | nil : CS [] []
  | cons (x : Str) (k : Nat) (p : Pos) {es : List PySem.Expr} {xs : List Str} : CS es xs → CS (.Constant (.str x) k p :: es) (x :: xs)
theorem ci_splice {env : Env} {pos : Pos} {es : List PySem.Expr} {ns : List Int} (hc : CI es ns) : ∀ {s : Shared} {Q : List Value → Shared → Prop}, (∀ vs tk, IntsAre vs ns → Q vs { s with toks := tk }) →
    wpAny (model PW w) A (spliced (backTo pos (starEach es env))) Q E s := by
  induction hc with
  | nil => exact fun {s} {Q} h => spliced_none (h [] s.toks .nil)
  | cons n k p _ ih => exact fun {s} {Q} h => spliced_more (wpAny_Constant_int (ih fun vs tk hv => h _ tk (.cons n _ hv)))
theorem cs_splice {env : Env} {pos : Pos} {es : List PySem.Expr} {ns : List Str} (hc : CS es ns) : ∀ {s : Shared} {Q : List Value → Shared → Prop}, (∀ vs tk, StrsAre vs ns → Q vs { s with toks := tk }) →
    wpAny (model PW w) A (spliced (backTo pos (starEach es env))) Q E s := by
  induction hc with
  | nil => exact fun {s} {Q} h => spliced_none (h [] s.toks .nil)
  | cons n k p _ ih => exact fun {s} {Q} h => spliced_more (wpAny_Constant_str (ih fun vs tk hv => h _ tk (.cons n _ hv)))
theorem list_I {env : Env} {pos : Pos} {es : List PySem.Expr} {ns : List Int} {Q : Value → Shared → Prop} (hc : CI es ns) (F : Fr h₀ L s.heap m) (N : News h₀ L s.heap news) (hz : ns.length ≤ 1000)
    (h : ∀ D h' tk ws, IntsAre ws ns → Fr h₀ L h' m → News h₀ L h' ((D, listOf (List.toArray ws) 0) :: news) → (∀ p ∈ news, p.1 < D) → Q (.ref D) { s with heap := h', toks := tk }) : wpAny (model PW w) A (eval (.List es pos) env) Q E s :=
  List_ (ci_splice hc fun vs tk hv => newList_I hv F N hz fun D h' ws hw F' N' l => h D h' tk ws hw F' N' l)
theorem sa_len {vs : List Value} {xs : List Str} (h : StrsAre vs xs) : vs.length = xs.length := by
  induction h with
  | nil => rfl
  | cons n t _ ih => rw [List.length_cons, List.length_cons, ih]
theorem list_S {env : Env} {pos : Pos} {es : List PySem.Expr} {ns : List Str} {Q : Value → Shared → Prop} (hc : CS es ns) (F : Fr h₀ L s.heap m) (N : News h₀ L s.heap news) (hz : ns.length ≤ 1000)
    (h : ∀ D h' tk ws, StrsAre ws ns → Fr h₀ L h' m → News h₀ L h' ((D, listOf (List.toArray ws) 0) :: news) → (∀ p ∈ news, p.1 < D) → Q (.ref D) { s with heap := h', toks := tk }) : wpAny (model PW w) A (eval (.List es pos) env) Q E s :=
  List_ (cs_splice hc fun vs tk hv => newList_S hv F N (by rw [sa_len hv]; exact hz) fun D h' ws hw F' N' l => h D h' tk ws hw F' N' l)
set_option maxHeartbeats 1600000 in
theorem lawA {Q : Flow → Shared → Prop} {axS : Addr} {vs : List Value} {ns : List Int} {o1 o2 o3 o4 o5 : Obj} (hh : A.handled = none)
    (F : Fr h₀ L s.heap m) (N : News h₀ L s.heap [(L + 1 + 1 + 1 + 1 + 1, o5), (L + 1 + 1 + 1 + 1, o4), (L + 1 + 1 + 1, o3), (L + 1 + 1, o2), (L + 1, o1)]) (G : Gd w mean mg mb h₀)
    (h1 : o1.data = .cell none) (h2 : o2.data = .cell none) (hm : m "script" = some (.ref axS)) (hS : h₀.IsList axS vs.toArray) (hi : IntsAre vs ns) (hlen : ns.length ≤ 63)
    (kont : ∀ h' tk' m' Dr Dc Df dv cv fv c1 c2 c3 o1' o2' t, Fr h₀ L h' m' → News h₀ L h' [(L + 1, o1'), (L + 1 + 1, o2'), (L + 1 + 1 + 1 + 1 + 1, o5), (L + 1 + 1 + 1 + 1, o4), (L + 1 + 1 + 1, o3), (Df, listOf (List.toArray fv) c3), (Dc, listOf (List.toArray cv) c2), (Dr, listOf (List.toArray dv) c1)] →
      IntsAre dv (drawnF ns) → IntsAre cv codesL → StrsAre fv foldedL → o1'.data = .cell (some (.ref Dc)) → o2'.data = .cell (some (.ref Df)) → m' "drawn" = some (.ref Dr) → m' "seats" = some (.int ((seatsN ns : Nat) : Int) t) →
      (L + 1 + 1 + 1 + 1 + 1 < Dr ∧ Dr < Dc ∧ Dc < Df) →
      wpAny (model PW w) A (execs (lwB.drop 4) (lwE L fa cd)) Q E { s with heap := h', toks := tk' }) :
    wpAny (model PW w) A (execs lwB (lwE L fa cd)) Q E s := by
  have hvl : vs.length = ns.length := ia_len hi
  have lt5 : L + 1 + 1 + 1 + 1 + 1 < s.heap.objs.size := Heap.lt_size (N _ List.mem_cons_self).1
  refine wpAny_execs_cons ?_
  refine wpAny_Assign_Name (hs := ?hs0) ?_
  case hs0 => rfl
  refine wpAny_BinOp ?_
  refine Subscript_ ?_
  refine nameX_L F hm ?_
  refine wpAny_Slice ?_
  refine wpAny_evalPart_none ?_
  refine wpAny_evalPart_some ?_
  refine wpAny_Constant_int ?_
  refine wpAny_evalPart_none ?_
  refine kmk_slice_ints (lo := none) (hi := some 9) (ms := ns.take 9) (c := (ns.take 9).length) F N ?l ?p ?q hi ?mm rfl ?h ?s ?t ?z
  case l => exact (hS.at fun o e => F.keep _ o e)
  case p => exact .none
  case q => exact .int _ _
  case mm => exact kmk_upto hi (by decide)
  case s => with_unfolding_all rfl
  case t => intro _; with_unfolding_all rfl
  case z => rw [List.size_toArray, hvl]; exact Nat.le_trans hlen (Nat.le_of_ble_eq_true rfl)
  intro D1 ws1 h1' F1 N1 l1 hi1 _ _
  refine Subscript_ ?_
  refine List_ ?_
  refine ci_splice (ns := [3, 12, 7, 0, 9, 5, 6, 10, 7]) ?hi9 ?_
  case hi9 => repeat (first | exact .nil | refine .cons _ _ _ ?_)
  intro us2 tk2 hu2
  refine newList_I hu2 F1 N1 (by simp) ?_
  intro D2 h2' ws2 hi2 F2 N2 l2
  refine wpAny_Slice ?_
  refine wpAny_evalPart_some ?_
  refine Call_ (nameX_B F2 G.K (topRead_of G.T) (nm_len w) bb_len (by decide) ?_)
  refine PyProof.Rows.callWith_builtin1 (spliced_more (nameX_L F2 hm (spliced_none ?_)))
  refine PyProof.Rows.len_list (hS.at fun o e => F2.keep _ o e) (by simp; omega) ?_
  refine wpAny_evalPart_none ?_
  refine wpAny_evalPart_none ?_
  have hsz2 : ws2.length = 9 := ia_len hi2
  refine kba_turn (value' := .Name "script" ⟨0, 0, 0, 0⟩) (fun _ => rfl) ?_
  refine kmk_slice_ints (lo := some ((vs.toArray.size : Nat) : Int)) (hi := none) (ms := ([3, 12, 7, 0, 9, 5, 6, 10, 7] : List Int).drop ((vs.toArray.size : Nat) : Int).toNat) (c := (([3, 12, 7, 0, 9, 5, 6, 10, 7] : List Int).drop ((vs.toArray.size : Nat) : Int).toNat).length) F2 N2 ?l2 ?p2 ?q2 hi2 ?mm2 rfl ?h2 ?s2 ?t2 ?z2
  case l2 => exact ⟨_, (N2 _ List.mem_cons_self).1, rfl, _, rfl⟩
  case p2 => exact .int _ _
  case q2 => exact .none
  case mm2 => exact kmk_from hi2 (by omega)
  case s2 => with_unfolding_all rfl
  case t2 => intro _; with_unfolding_all rfl
  case z2 => rw [List.size_toArray, hsz2]; exact Nat.le_of_ble_eq_true rfl
  intro D3 ws3 h3' F3 N3 l3 hi3 _ _
  have l1' : ∀ p ∈ [(L + 1 + 1 + 1 + 1 + 1, o5), (L + 1 + 1 + 1 + 1, o4), (L + 1 + 1 + 1, o3), (L + 1 + 1, o2), (L + 1, o1)], p.1 < D1 := l1
  have d12 : D1 < D2 := l2 _ List.mem_cons_self
  have d23 : D2 < D3 := l3 _ List.mem_cons_self
  refine kmk_add_ints F3 N3 ?a3 ?b3 hi1 hi3 ?h3 ?z3
  case a3 => exact ⟨_, (N3 _ (List.mem_cons_of_mem _ (List.mem_cons_of_mem _ List.mem_cons_self))).1, rfl, _, rfl⟩
  case b3 => exact ⟨_, (N3 _ List.mem_cons_self).1, rfl, _, rfl⟩
  case z3 =>
    have h1 : (ns.take 9).length ≤ 9 := by rw [List.length_take]; omega
    have h2 : (([3, 12, 7, 0, 9, 5, 6, 10, 7] : List Int).drop ((vs.toArray.size : Nat) : Int).toNat).length ≤ 9 := by
      rw [List.length_drop]
      exact Nat.sub_le _ _
    have : 100 ≤ sizeLine := Nat.le_of_ble_eq_true rfl
    omega
  intro Dr dv h4' F4 N4 l4 hi4
  rw [show ns.take 9 ++ ([3, 12, 7, 0, 9, 5, 6, 10, 7] : List Int).drop ((vs.toArray.size : Nat) : Int).toNat = drawnF ns by
    rw [Int.toNat_natCast, List.size_toArray, hvl]; rfl] at hi4
  refine storeX_L F4 N4 fun h5' F5 N5 => ?_
  have d3r : D3 < Dr := l4 _ List.mem_cons_self
  have N5' : News h₀ L h5' [(L + 1, o1), (L + 1 + 1, o2), (L + 1 + 1 + 1 + 1 + 1, o5), (L + 1 + 1 + 1 + 1, o4), (L + 1 + 1 + 1, o3), (Dr, listOf (List.toArray dv) 0)] := News.sub N5 (by
    intro p hp
    simp only [List.mem_cons, List.not_mem_nil, or_false] at hp ⊢
    rcases hp with h | h | h | h | h | h <;> simp [h])
  have lr : L + 1 + 1 + 1 + 1 + 1 < Dr := by
    have := l1' _ List.mem_cons_self
    exact Nat.lt_trans (Nat.lt_trans (Nat.lt_trans this d12) d23) d3r
  refine wpAny_execs_cons ?_
  refine wpAny_Assign_Name (hs := ?hs1) ?_
  case hs1 => rfl
  refine List_ ?_
  refine ci_splice (ns := codesL) ?hi14 ?_
  case hi14 => repeat (first | exact .nil | refine .cons _ _ _ ?_)
  intro us6 tk6 hu6
  refine newList_I hu6 F5 N5' (by simp [codesL]) ?_
  intro Dc h6' cv hcv F6 N6 l6
  have hrc : Dr < Dc := l6 (Dr, listOf (List.toArray dv) 0) (by simp)
  have N6' : News h₀ L h6' [(L + 1, o1), (L + 1 + 1, o2), (L + 1 + 1 + 1 + 1 + 1, o5), (L + 1 + 1 + 1 + 1, o4), (L + 1 + 1 + 1, o3), (Dc, listOf (List.toArray cv) 0), (Dr, listOf (List.toArray dv) 0)] := News.sub N6 (by
    intro p hp
    simp only [List.mem_cons, List.not_mem_nil, or_false] at hp ⊢
    rcases hp with h | h | h | h | h | h | h <;> simp [h])
  have lr' := ltN lr
  have hrc' := ltN hrc
  refine storeX_C F6 N6' rfl (UpdF.head ?_) h1 fun h7' o1' F7 N7 ho1 => ?_
  · intro p hp
    simp only [List.mem_cons, List.not_mem_nil, or_false] at hp
    rcases hp with h | h | h | h | h | h <;> rw [h] <;> (refine neN ?_) <;> omega
  dsimp only
  refine wpAny_execs_cons ?_
  refine wpAny_Assign_Name (hs := ?hs2) ?_
  case hs2 => rfl
  refine List_ ?_
  refine cs_splice (ns := foldedL) ?hs14 ?_
  case hs14 => repeat (first | exact .nil | refine .cons _ _ _ ?_)
  intro us8 tk8 hu8
  refine newList_S hu8 F7 N7 (by rw [sa_len hu8]; simp [foldedL]) ?_
  intro Df h8' fv hfv F8 N8 l8
  have hcf : Dc < Df := l8 (Dc, listOf (List.toArray cv) 0) (by simp)
  have N8' : News h₀ L h8' [(L + 1 + 1, o2), (L + 1, o1'), (L + 1 + 1 + 1 + 1 + 1, o5), (L + 1 + 1 + 1 + 1, o4), (L + 1 + 1 + 1, o3), (Df, listOf (List.toArray fv) 0), (Dc, listOf (List.toArray cv) 0), (Dr, listOf (List.toArray dv) 0)] := News.sub N8 (by
    intro p hp
    simp only [List.mem_cons, List.not_mem_nil, or_false] at hp ⊢
    rcases hp with h | h | h | h | h | h | h | h <;> simp [h])
  have hcf' := ltN hcf
  refine storeX_C F8 N8' rfl (UpdF.head ?_) h2 fun h9' o2' F9 N9 ho2 => ?_
  · intro p hp
    simp only [List.mem_cons, List.not_mem_nil, or_false] at hp
    rcases hp with h | h | h | h | h | h | h <;> rw [h] <;> (refine neN ?_) <;> omega
  dsimp only
  refine wpAny_execs_cons ?_
  refine wpAny_Assign_Name (hs := ?hs3) ?_
  case hs3 => rfl
  refine wpAny_BinOp ?_
  refine wpAny_Constant_int ?_
  refine wpAny_BinOp ?_
  refine Call_ (nameX_B F9 G.K (topRead_of G.T) (nm_sum w) bb_sum (by decide) ?_)
  refine PyProof.Rows.callWith_builtin1 (spliced_more (nameX_L F9 rfl (spliced_none ?_)))
  refine sum_N hh F9 N9 (List.mem_cons_of_mem _ (List.mem_cons_of_mem _ (List.mem_cons_of_mem _ (List.mem_cons_of_mem _ (List.mem_cons_of_mem _ (List.mem_cons_of_mem _ (List.mem_cons_of_mem _ List.mem_cons_self))))))) ⟨rfl, _, rfl⟩ hi4 ?_
  intro h10' t10 tk10 F10 N10
  refine wpAny_Constant_int ?_
  refine PyProof.Rows.mod_int (by decide) ?_
  refine PyProof.Rows.add_int ?_
  rw [seatsN_eq]
  refine storeX_L F10 N10 ?_
  intro h11' F11 N11
  have N11' : News h₀ L h11' [(L + 1, o1'), (L + 1 + 1, o2'), (L + 1 + 1 + 1 + 1 + 1, o5), (L + 1 + 1 + 1 + 1, o4), (L + 1 + 1 + 1, o3), (Df, listOf (List.toArray fv) 0), (Dc, listOf (List.toArray cv) 0), (Dr, listOf (List.toArray dv) 0)] := News.swap N11
  exact kont h11' _ _ Dr Dc Df dv cv fv 0 0 0 o1' o2' _ F11 N11' hi4 hcv hfv ho1 ho2 rfl rfl ⟨lr, hrc, hcf⟩
end
end Mine
end

/-! part M24 -/
section
open PySem PySem.W PyProof.Rows PySem.Calls PyProof.Rows.LCg
namespace Mine
section
variable {w : World} {A : Around} {E : Value → Shared → Prop} {s : Shared} {h₀ : Heap} {L : Addr} {m : Str → Option Value} {env : Env} {news : List (Addr × Obj)}
/-- for x in a list on the ledger -/
theorem for_list {x : Str} {px : Pos} {body : List Stmt} {l : Addr} {oA : Obj} {vs : List Value} {R : Result → Shared → Prop} {J : Nat → (Str → Option Value) → List (Addr × Obj) → Array GenState → Prop}
    (hh : A.handled = none) (hL : env.locals = L) (hk : env.scope.kind = .function) (hx : env.kindOf x = some .local)
    (F : Fr h₀ L s.heap m) (N : News h₀ L s.heap news) (hJ : J 0 m news s.gens) (hl : ∀ i m nw G, J i m nw G → (l, oA) ∈ nw) (hoA : LO oA vs)
    (step : ∀ i v m₁ nw G h tk I oI, vs[i]? = some v → J i m₁ nw G → Fr h₀ L h (fun y => if y = x then some v else m₁ y) → News h₀ L h ((I, oI) :: nw) → (∀ p ∈ nw, p.1 ≠ I) → ∀ E' : Value → Shared → Prop,
      wpAny (model PW w) A (execs body env) (fun f s₃ => match f with
        | .next | .cont => Stp h₀ L s I oI (J (i + 1)) s₃
        | .brk => R (.ok .next) s₃
        | .ret v => R (.ok (.ret v)) s₃) E' { s with heap := h, toks := tk, gens := G })
    (hR : ∀ h tk G m₁ nw, J vs.length m₁ nw G → Fr h₀ L h m₁ → News h₀ L h nw → R (.ok .next) { s with heap := h, toks := tk, gens := G }) :
    wpAny (model PW w) A (pyIter (.ref l)) (fun it s₂ => codeAny (model PW w) A (.forLoop (.Name x px) it body [] env) R s₂) E s := by
  subst hL
  refine wpAny_pyIter_list (hoA.at (N _ (hl _ _ _ _ hJ)).1) ?_
  have F2 := F.push { cls := .type "list_iterator", data := .fields #[.ref l, .int 0 0] }
  have N2 := N.push F { cls := .type "list_iterator", data := .fields #[.ref l, .int 0 0] }
  have off2 : ∀ p ∈ news, p.1 ≠ s.heap.objs.size := fun p hp => Nat.ne_of_lt (Heap.lt_size (N p hp).1)
  refine codeAny_forLoop_any (fun k s' => ∃ i h tk G m₁ nw oI, s' = { s with heap := h, toks := tk, gens := G } ∧ i + k = vs.length ∧ J i m₁ nw G ∧ Fr h₀ env.locals h m₁ ∧ News h₀ env.locals h ((s.heap.objs.size, oI) :: nw) ∧ LI oI l i ∧ (∀ p ∈ nw, p.1 ≠ s.heap.objs.size))
    ?_ vs.length ⟨0, _, _, _, m, news, _, rfl, Nat.zero_add _, hJ, F2, N2, ⟨rfl, rfl⟩, off2⟩
  rintro k s' ⟨i, h, tk, G, m₁, nw, oI, rfl, hik, hj, F3, N3, hI, off3⟩
  have zI := N3 _ List.mem_cons_self
  have hlm := hl _ _ _ _ hj
  have zA := N3 _ (List.mem_cons_of_mem _ hlm)
  rcases Nat.lt_or_ge i vs.length with hlt | hge
  · refine wpAny_pyNext_list_item (hI.at zI.1) (hoA.at zA.1) (x := vs[i]) (by simp [hlt]) fun h₁ hit₁ hs₁ => ?_
    obtain ⟨oI5, eI5, cI5, dI5⟩ := hit₁
    have F4 := F3.change hs₁ zI.2.1 zI.2.2
    have N4 := N3.setHead off3 hs₁ eI5
    show wpAny _ _ (pure ()) _ _ _
    refine wpAny_pure (wpAny_assign_Name (wpAny_storeName_local hx F4.ns (fun h₂ hn₂ hs₂ => ?_) (by simp [hk])))
    refine wpAny_mono (step i vs[i] m₁ nw G h₂ _ _ oI5 (by simp [hlt]) hj (F4.set hn₂ hs₂) (N4.set hs₂) off3 _) (fun f s₃ h3 => ?_) fun _ _ e => e
    have go : Stp h₀ env.locals s s.heap.objs.size oI5 (J (i + 1)) s₃ → ∃ m, m < k ∧ ∃ i h tk G m₁ nw oI, s₃ = { s with heap := h, toks := tk, gens := G } ∧ i + m = vs.length ∧ J i m₁ nw G ∧ Fr h₀ env.locals h m₁ ∧ News h₀ env.locals h ((s.heap.objs.size, oI) :: nw) ∧ LI oI l i ∧ (∀ p ∈ nw, p.1 ≠ s.heap.objs.size) := by
      rintro ⟨h', tk, G, m, nw, rfl, F5, N5, off5, hj5⟩
      exact ⟨k - 1, by omega, i + 1, h', tk, G, m, nw, oI5, rfl, by omega, hj5, F5, N5, ⟨cI5, dI5⟩, off5⟩
    cases f with
    | next => exact go h3
    | cont => exact go h3
    | brk => exact h3
    | ret v => exact h3
  · obtain rfl : i = vs.length := by omega
    refine wpAny_pyNext_list_end hh (hI.at zI.1) (hoA.at zA.1) (by simp) fun h₁ he₁ => wpAny_execs_nil ?_
    refine hR h₁ tk G m₁ nw hj ⟨F3.ns.at' fun o e => he₁ _ o (Ne.symm zI.2.1) e, fun b o e => he₁ b o (by rintro rfl; rw [zI.2.2] at e; cases e) (F3.keep b o e), F3.above⟩ fun p hp => ?_
    exact ⟨he₁ _ _ (off3 p hp) (N3 p (List.mem_cons_of_mem _ hp)).1, (N3 p (List.mem_cons_of_mem _ hp)).2⟩
end
/-- the codes -/
noncomputable def codesN : List Nat := [70, 73, 76, 64256, 64257, 64258, 64259, 64260, 119813, 119868, 120235, 8497, 8464, 8466]
theorem codesL_eq : codesL = codesN.map fun c => ((c : Nat) : Int) := rfl
noncomputable def codeN (v : Int) : Nat := codesN.getD (v % 14).toNat 0
theorem idx14 (v : Int) : (v.fmod 14) = (((v % 14).toNat : Nat) : Int) ∧ (v % 14).toNat < 14 := by
  rw [Int.fmod_eq_emod_of_nonneg _ (by decide)]
  omega
theorem codeN_get (v : Int) : codesL[(v % 14).toNat]? = some ((codeN v : Nat) : Int) := by
  have h := (idx14 v).2
  have hl : codesN.length = 14 := rfl
  rw [codesL_eq, List.getElem?_map, List.getElem?_eq_getElem (by omega)]
  unfold codeN
  rw [List.getD_eq_getElem?_getD, List.getElem?_eq_getElem (by omega)]
  rfl
theorem codeN_mem (v : Int) : codeN v ∈ codesN := by
  have h := (idx14 v).2
  have hl : codesN.length = 14 := rfl
  unfold codeN
  rw [List.getD_eq_getElem?_getD, List.getElem?_eq_getElem (by omega)]
  exact List.getElem_mem _
/-- the codes written: those drawn, and three more -/
noncomputable def codesOf (ns : List Int) : List Nat := (drawnF ns).map codeN ++ [70, 105, 76]
theorem codesOf_mem {ns : List Int} {c : Nat} (h : c ∈ codesOf ns) : c ∈ codesN ++ [70, 105, 76] := by
  rcases List.mem_append.mp h with h | h
  · obtain ⟨v, _, rfl⟩ := List.mem_map.mp h
    exact List.mem_append_left _ (codeN_mem v)
  · exact List.mem_append_right _ h
theorem codesOf_len (ns : List Int) : (codesOf ns).length = 12 := by
  unfold codesOf
  rw [List.length_append, List.length_map, drawnF_len]
  rfl
theorem codes_lt {c : Nat} (h : c ∈ codesN ++ [70, 105, 76]) : c < 64 ^ 5 := by
  have : ∀ c ∈ codesN ++ [70, 105, 76], c < 64 ^ 5 := by decide
  exact this c h
theorem octL_len : ∀ (k n : Nat) (d : List Int), d.length ≤ (octL k n d).length ∧ (octL k n d).length ≤ k + d.length
  | 0, n, d => by rw [octL_zero]; omega
  | k + 1, n, d => by
    by_cases h : 63 < n
    · rw [octL_go h]
      have := octL_len k (n / 64) ((((n / 64 % 64 : Nat) : Int) + 64) :: d)
      rw [List.length_cons] at this
      omega
    · rw [octL_stop h]; omega
theorem octF_len (n : Nat) : 1 ≤ (octF n).length ∧ (octF n).length ≤ 5 := by
  rw [← octF_eq]
  have := octL_len 4 n [((n % 64 : Nat) : Int)]
  rw [List.length_singleton] at this
  omega
/-- the octets of some codes -/
noncomputable def octs (cs : List Nat) : List Int := cs.flatMap octF
theorem octs_snoc (cs : List Nat) (c : Nat) : octs (cs ++ [c]) = octs cs ++ octF c := by simp [octs]
theorem octs_len (cs : List Nat) : (octs cs).length ≤ 5 * cs.length := by
  induction cs with
  | nil => simp [octs]
  | cons c r ih =>
    have : octs (c :: r) = octF c ++ octs r := by simp [octs]
    rw [this, List.length_append, List.length_cons]
    have := (octF_len c).2
    omega
end Mine
end

/-! part M25 -/
section
open PySem PySem.W PyProof.Rows PySem.Calls PyProof.Rows.LCg
namespace Mine
theorem nm_oct (w : World) : nsIn (KW w.params) mainGlobals "_law_octets" = some (some (.ref 81)) := by kernel_rfl
theorem keep81 (w : World) : keepIn (KW w.params) (.ref 81) = true := by kernel_rfl
theorem ia_append {vs us : List Value} {ns ms : List Int} (h : IntsAre vs ns) (g : IntsAre us ms) : IntsAre (vs ++ us) (ns ++ ms) := by
  induction h with
  | nil => exact g
  | cons n t _ ih => exact .cons n t ih
section
variable {w : World} {A A₀ : Around} {E : Value → Shared → Prop} {s : Shared} {h₀ base : Heap} {L : Addr} {m : Str → Option Value} {news : List (Addr × Obj)} {mean : ExcName → Option Value} {mg mb : Str → Option Value}
  {fa : Addr} {cd : Value}
set_option maxHeartbeats 1600000 in
theorem lawBB {Q : Flow → Shared → Prop} {ns : List Int} {Dr Dc : Addr} {dv cv : List Value} {c1 c2 : Nat} {o1 : Obj} {tS : Tok} (B : Below A₀ base [] h₀) (hA : A.frames = some [lwE L fa cd]) (hroom : A.depth + 30 < recursionLimit) (hh : A.handled = none) (hg : AllBare s.gens)
    (F : Fr h₀ L s.heap m) (N : News h₀ L s.heap news) (G : Gd w mean mg mb h₀) (k1 : (L + 1, o1) ∈ news) (k2 : (Dc, listOf cv.toArray c2) ∈ news) (k3 : (Dr, listOf dv.toArray c1) ∈ news)
    (hdv : IntsAre dv (drawnF ns)) (hcv : IntsAre cv codesL) (ho1 : o1.data = .cell (some (.ref Dc))) (hm1 : m "drawn" = some (.ref Dr)) (hm2 : m "seats" = some (.int ((seatsN ns : Nat) : Int) tS))
    (kont : ∀ h' tk' G' m' Do wv c, AllBare G' → Fr h₀ L h' m' → News h₀ L h' ((Do, listOf (List.toArray wv) c) :: news) → (∀ p ∈ news, p.1 ≠ Do) → IntsAre wv (octs (codesOf ns)) → m' "octets" = some (.ref Do) → m' "drawn" = some (.ref Dr) → m' "seats" = some (.int ((seatsN ns : Nat) : Int) tS) →
      wpAny (model PW w) A (execs (lwB.drop 6) (lwE L fa cd)) Q E { s with heap := h', toks := tk', gens := G' }) :
    wpAny (model PW w) A (execs (lwB.drop 4) (lwE L fa cd)) Q E s := by
  refine wpAny_execs_cons ?_
  refine wpAny_Assign_Name (hs := ?hs0) ?_
  case hs0 => rfl
  refine List_ (spliced_none ?_)
  refine newList_I .nil F N (by simp) ?_
  intro Do h1 wv0 hw0 F1 N1 l1
  refine storeX_L F1 N1 ?_
  intro h2 F2 N2
  have offD : ∀ p ∈ news, p.1 ≠ Do := fun p hp => Nat.ne_of_lt (l1 p hp)
  dsimp only
  refine wpAny_execs_cons ?_
  refine wpAny_For ?_
  refine wpAny_BinOp ?_
  refine comp_eval (cl := [("codes", L + 1)]) rfl rfl (by decide) ?_
  refine nameX_L F2 hm1 ?_
  refine comp_map (fun v => ((codeN v : Nat) : Int)) hh rfl (by decide) rfl F2 N2 (List.mem_cons_of_mem _ k3) ⟨rfl, _, rfl⟩ hdv hg (by rw [drawnF_len]; decide) ?_ ?_
  · intro a t G' h tk C oC mC own ha hG F3 N3 hoC hm E'
    refine Subscript_ ?_
    refine lcf_cell N3 rfl (List.mem_cons_of_mem _ (List.mem_append_right _ (List.mem_cons_of_mem _ k1))) ho1 ?_ rfl rfl
    refine wpAny_BinOp ?_
    refine ldC rfl rfl N3 hoC hm ?_
    refine wpAny_Constant_int ?_
    refine PyProof.Rows.mod_int (by decide) ?_
    rw [(idx14 a).1]
    refine item_N (ns := codesL) (k := (a % 14).toNat) (a := ((codeN a : Nat) : Int)) N3 (List.mem_cons_of_mem _ (List.mem_append_right _ (List.mem_cons_of_mem _ k2))) ⟨rfl, _, rfl⟩ hcv (Nat.lt_trans (idx14 a).2 (by decide)) (codeN_get a) ?_
    intro ta
    exact ⟨h, _, G', _, rfl, rfl, F3, N3, hG⟩
  intro C oC mC T1 h tk G' ys hys hG F3 N3 hoC off hCD
  refine end_plain F3 N3 hoC off hCD ?_
  intro h4 F4 N4
  refine List_ ?_
  refine ci_splice (ns := [70, 105, 76]) ?hi3 ?_
  case hi3 => repeat (first | exact .nil | refine .cons _ _ _ ?_)
  intro us5 tk5 hu5
  refine newList_I hu5 F4 N4 (by simp) ?_
  intro T2 h5 zs hzs F5 N5 l5
  refine kmk_add_ints F5 N5 ?a1 ?b1 hys hzs ?h1 ?z1
  case a1 => exact ⟨_, (N5 _ (List.mem_cons_of_mem _ List.mem_cons_self)).1, rfl, _, rfl⟩
  case b1 => exact ⟨_, (N5 _ List.mem_cons_self).1, rfl, _, rfl⟩
  case z1 =>
    rw [List.length_map, drawnF_len]
    exact Nat.le_of_ble_eq_true rfl
  intro T3 us h6 F6 N6 l6 hus
  have hus' : IntsAre us ((codesOf ns).map fun c => ((c : Nat) : Int)) := by
    have e : (codesOf ns).map (fun c => ((c : Nat) : Int)) = (drawnF ns).map (fun v => ((codeN v : Nat) : Int)) ++ [70, 105, 76] := by
      unfold codesOf
      rw [List.map_append, List.map_map]
      rfl
    rw [e]
    exact hus
  have hDT : Do ≠ T3 := Nat.ne_of_lt (l6 _ (List.mem_cons_of_mem _ (List.mem_cons_of_mem _ List.mem_cons_self)))
  have offT : ∀ p ∈ news, p.1 ≠ T3 := fun p hp => Nat.ne_of_lt (l6 p (List.mem_cons_of_mem _ (List.mem_cons_of_mem _ (List.mem_cons_of_mem _ hp))))
  have N6' : News h₀ L h6 ((Do, listOf (List.toArray wv0) 0) :: (T3, listOf (List.toArray us) 0) :: news) := News.sub N6 (by
    intro p hp
    simp only [List.mem_cons] at hp ⊢
    rcases hp with h | h | h <;> simp [h])
  have hul : us.length = 12 := by rw [ia_len hus', List.length_map, codesOf_len]
  refine for_list (oA := listOf (List.toArray us) 0) (vs := us) (J := fun i m nw G => AllBare G ∧ ∃ wv c, nw = (Do, listOf (List.toArray wv) c) :: (T3, listOf (List.toArray us) 0) :: news ∧ IntsAre wv (octs ((codesOf ns).take i)) ∧ m "octets" = some (.ref Do) ∧ m "drawn" = some (.ref Dr) ∧ m "seats" = some (.int ((seatsN ns : Nat) : Int) tS))
    hh rfl rfl rfl F6 N6' ⟨hG, wv0, 0, rfl, hw0, rfl, hm1, hm2⟩ ?_ ⟨rfl, _, rfl⟩ ?_ ?_
  · rintro i m nw G ⟨_, wv, c, rfl, _⟩
    exact List.mem_cons_of_mem _ List.mem_cons_self
  · rintro i v m₁ nw G1 h tk I oI hv ⟨hG1, wv, c, rfl, hwv, e1, e2, e3⟩ F7 N7 off7 E'
    obtain ⟨a, t, ha, rfl⟩ := ia_get hus' hv
    rw [List.getElem?_map] at ha
    obtain ⟨cc, hcc, rfl⟩ := Option.map_eq_some_iff.mp ha
    have hcm := codesOf_mem (List.mem_of_getElem? hcc)
    have hDI : Do ≠ I := off7 _ List.mem_cons_self
    have hTI : T3 ≠ I := off7 _ (List.mem_cons_of_mem _ List.mem_cons_self)
    refine wpAny_execs_cons ?_
    refine wpAny_Expr_any ?_
    refine MethodCall_ (nameX_L F7 e1 (kl_method N7 (List.mem_cons_of_mem _ List.mem_cons_self) PySem.F.slot_list_extend PySem.F.type_list_extend ?_))
    refine PyProof.Rows.callWith_method1 (spliced_more ?_)
    refine Call_ (nameX_K F7 G.K (topRead_of G.T) (nm_oct w) (callWith_K G.K (keep81 w) (spliced_more (nameX_L F7 rfl (spliced_none ⟨G.K.keeps F7.keep, ?_⟩)))))
    refine octets_call B F7 N7 G hA rfl rfl (by omega) (codes_lt hcm) ?_
    intro D h8 tk8 xs c8 hxs hxl F8 N8 off8
    refine spliced_none ?_
    have hDoD : Do ≠ D := off8 _ (List.mem_cons_of_mem _ List.mem_cons_self)
    have N8' : News h₀ L h8 ((Do, listOf (List.toArray wv) c) :: (D, listOf (List.toArray xs) c8) :: (I, oI) :: (T3, listOf (List.toArray us) 0) :: news) := News.sub N8 (by
      intro p hp
      simp only [List.mem_cons] at hp ⊢
      rcases hp with h | h | h | h | h <;> simp [h])
    have hwl : wv.length ≤ 60 := by
      rw [ia_len hwv]
      refine Nat.le_trans (octs_len _) ?_
      rw [List.length_take]
      have := codesOf_len ns
      omega
    have hxl' : 1 ≤ xs.length ∧ xs.length ≤ 5 := by
      rw [ia_len hxs]
      exact octF_len cc
    have h1000 : 1000 ≤ sizeLine := Nat.le_of_ble_eq_true rfl
    refine kl_extend (l := wv ++ xs) F8 N8' (List.mem_cons_of_mem _ List.mem_cons_self) rfl ?n2 (.head ?u2) ?d2 ?z2 ?y2 ?k2
    case n2 => show xs.length ≠ 0; omega
    case u2 =>
      intro p hp
      simp only [List.mem_cons] at hp
      rcases hp with h | h | h | h
      · rw [h]; exact Ne.symm hDoD
      · rw [h]; exact Ne.symm hDI
      · rw [h]; exact Ne.symm hDT
      · exact offD p h
    case d2 =>
      intro q
      have q2 := (Bool.and_eq_true_iff.mp q).2
      revert q2
      show ¬ (Builtin.List.listTooLong (wv.toArray.size + xs.toArray.size) = true)
      unfold Builtin.List.listTooLong
      simp
      omega
    case z2 => show wv.length ≤ sizeLine; omega
    case y2 => rw [List.size_toArray, List.size_toArray]; omega
    intro h9 F9 N9
    dsimp only
    refine wpAny_execs_nil ?_
    have N9' : News h₀ L h9 ((I, oI) :: (Do, listOf (List.toArray (wv ++ xs)) (c + 1)) :: (T3, listOf (List.toArray us) 0) :: news) := News.sub N9 (by
      intro p hp
      simp only [List.mem_cons] at hp ⊢
      rcases hp with h | h | h | h <;> simp [h])
    refine ⟨h9, _, _, _, _, rfl, F9, N9', ?_, hG1, wv ++ xs, c + 1, rfl, ?_, e1, e2, e3⟩
    · intro p hp
      rcases List.mem_cons.mp hp with h | h
      · rw [h]; exact hDI
      · exact off7 p (List.mem_cons_of_mem _ h)
    · rw [take_snoc hcc, octs_snoc]
      exact ia_append hwv hxs
  · rintro h tk G1 m₁ nw ⟨hG1, wv, c, rfl, hwv, e1, e2, e3⟩ F7 N7
    rw [hul, show (codesOf ns).take 12 = codesOf ns from List.take_of_length_le (by rw [codesOf_len]; exact Nat.le_refl _)] at hwv
    refine kont h tk G1 m₁ Do wv c hG1 F7 (News.sub N7 ?_) offD hwv e1 e2 e3
    intro p hp
    rcases List.mem_cons.mp hp with h | h
    · rw [h]; exact List.mem_cons_self
    · exact List.mem_cons_of_mem _ (List.mem_cons_of_mem _ h)
end
end Mine
end

/-! part M26 -/
section
open PySem PySem.W PyProof.Rows PySem.Calls PyProof.Rows.LCg
namespace Mine
noncomputable def foldStr (v : Int) : Str := foldedL.getD (v % 14).toNat ""
/-- the law's own text -/
noncomputable def textF (ns : List Int) : List Nat := [102, 105, 108] ++ (drawnF ns).flatMap fun v => (foldStr v).cps.toList
theorem glued_fold : ∀ (l : List Str) (acc : Array Nat), (l.foldl (fun acc p => acc ++ (Str.ofString "").cps ++ p.cps) acc).toList = acc.toList ++ l.flatMap fun p => p.cps.toList
  | [], acc => by simp
  | p :: r, acc => by
    rw [List.foldl_cons, glued_fold r]
    have e : (Str.ofString "").cps = #[] := rfl
    rw [e]
    simp
theorem join_empty (ys : List Str) : (Txt.join (Str.ofString "") ys).cps.toList = ys.flatMap fun p => p.cps.toList := by
  show ((ys.drop 1).foldl (fun acc p => acc ++ (Str.ofString "").cps ++ p.cps) (ys.headD Str.empty).cps).toList = _
  rw [glued_fold]
  cases ys with
  | nil => rfl
  | cons p r => rfl
theorem foldStr_get (v : Int) : foldedL[(v % 14).toNat]? = some (foldStr v) := by
  have h := (idx14 v).2
  have hl : foldedL.length = 14 := rfl
  unfold foldStr
  rw [List.getD_eq_getElem?_getD, List.getElem?_eq_getElem (by omega)]
  rfl
theorem foldStr_len (v : Int) : (foldStr v).cps.toList.length ≤ 3 := by
  have h1 : ∀ x ∈ foldedL, x.cps.toList.length ≤ 3 := by decide +kernel
  exact h1 _ (List.mem_of_getElem? (foldStr_get v))
theorem sa_get {vs : List Value} {xs : List Str} (h : StrsAre vs xs) : ∀ {i : Nat} {x : Str}, xs[i]? = some x → ∃ t, vs[i]? = some (.str x t) := by
  induction h with
  | nil => intro i v e; simp at e
  | cons n t _ ih =>
    intro i v e
    cases i with
    | zero => simp at e; exact ⟨t, by simp [e]⟩
    | succ i => simp at e; simpa using ih e
theorem sa_snoc {vs : List Value} {xs : List Str} (h : StrsAre vs xs) (x : Str) (t : Tok) : StrsAre (vs ++ [.str x t]) (xs ++ [x]) := by
  induction h with
  | nil => exact .cons x t .nil
  | cons n u _ ih => exact .cons n u ih
theorem sum_le3 : ∀ l : List Int, ((l.map foldStr).map (·.length)).sum ≤ 3 * l.length
  | [] => by simp
  | v :: r => by
    have := sum_le3 r
    have := foldStr_len v
    rw [← str_size] at this
    simp only [List.map_cons, List.sum_cons, List.length_cons]
    omega
section
variable {w : World} {A A₀ : Around} {E : Value → Shared → Prop} {s : Shared} {h₀ base : Heap} {L : Addr} {m : Str → Option Value} {news : List (Addr × Obj)} {mean : ExcName → Option Value} {mg mb : Str → Option Value}
  {fa : Addr} {cd : Value}
theorem add_strL {x y : Str} {t u : Tok} {Q : Value → Shared → Prop} (hs : x.cps.toList.length + y.cps.toList.length ≤ 5000)
    (h : ∀ z t' k, z.cps.toList = x.cps.toList ++ y.cps.toList → Q (.str z t') { s with toks := k }) : wpAny (model PW w) A (binaryOp .Add (.str x t) (.str y u)) Q E s := by
  have hz : (x ++ y : Str).cps.toList = x.cps.toList ++ y.cps.toList := by show (x.cps ++ y.cps).toList = _; simp
  have h2 : 5000 ≤ sizeLine := Nat.le_of_ble_eq_true rfl
  exact add_str (fun t' k => h _ _ _ hz) (by rw [str_size, str_size]; omega)
set_option maxHeartbeats 1600000 in
theorem lawC {Q : Flow → Shared → Prop} {ns : List Int} {Dr Df Do : Addr} {dv fv : List Value} {c1 c3 : Nat} {o2 o3 o4 : Obj} {v3 v4 : Option Value} {tS : Tok} (hh : A.handled = none) (hg : AllBare s.gens)
    (F : Fr h₀ L s.heap m) (N : News h₀ L s.heap ((L + 1 + 1 + 1, o3) :: (L + 1 + 1 + 1 + 1, o4) :: news)) (off : ∀ p ∈ news, p.1 ≠ L + 1 + 1 + 1 ∧ p.1 ≠ L + 1 + 1 + 1 + 1)
    (k2 : (L + 1 + 1, o2) ∈ news) (k3 : (Dr, listOf dv.toArray c1) ∈ news) (k4 : (Df, listOf fv.toArray c3) ∈ news)
    (hdv : IntsAre dv (drawnF ns)) (hfv : StrsAre fv foldedL) (ho2 : o2.data = .cell (some (.ref Df))) (ho3 : o3.data = .cell v3) (ho4 : o4.data = .cell v4)
    (hm0 : m "octets" = some (.ref Do)) (hm1 : m "drawn" = some (.ref Dr)) (hm2 : m "seats" = some (.int ((seatsN ns : Nat) : Int) tS))
    (kont : ∀ h' tk' G' m' Dv vv o4', AllBare G' → Fr h₀ L h' m' → News h₀ L h' ((L + 1 + 1 + 1 + 1, o4') :: (Dv, lst vv) :: news) → (∀ p ∈ news, p.1 ≠ Dv) → L + 1 + 1 + 1 + 1 ≠ Dv → o4'.data = .cell (some (.ref Dv)) → IntsAre vv (cnt (textF ns)) → m' "octets" = some (.ref Do) → m' "seats" = some (.int ((seatsN ns : Nat) : Int) tS) →
      wpAny (model PW w) A (execs (lwB.drop 8) (lwE L fa cd)) Q E { s with heap := h', toks := tk', gens := G' }) :
    wpAny (model PW w) A (execs (lwB.drop 6) (lwE L fa cd)) Q E s := by
  refine wpAny_execs_cons ?_
  refine wpAny_Assign_Name (hs := ?hs0) ?_
  case hs0 => rfl
  refine wpAny_BinOp ?_
  refine wpAny_Constant_str ?_
  refine MethodCall_ ?_
  refine wpAny_Constant_str ?_
  refine GM.join ?_
  refine PyProof.Rows.callWith_method1 (spliced_more ?_)
  refine comp_eval (cl := [("folded", L + 1 + 1)]) rfl rfl (by decide) ?_
  refine nameX_L F hm1 ?_
  refine comp_list (V := fun i ys => StrsAre ys (((drawnF ns).take i).map foldStr) ∧ i ≤ 9) (oA := listOf dv.toArray c1) (vs := dv) hh rfl (by decide) rfl F N (List.mem_cons_of_mem _ (List.mem_cons_of_mem _ k3)) ⟨rfl, _, rfl⟩ hg ?sz ⟨.nil, Nat.zero_le _⟩ ?vl ?el ?hq
  case sz => rw [ia_len hdv, drawnF_len]; exact Nat.le_of_ble_eq_true rfl
  case vl =>
    intro i ys h
    rw [sa_len h.1, List.length_map, List.length_take, drawnF_len]
    omega
  case el =>
    intro i ys G' h tk C oC mC own v hiv hV hG F3 N3 hoC hm E'
    obtain ⟨a, t, ha, rfl⟩ := ia_get hdv hiv
    have hi9 : i < 9 := by
      have := (List.getElem?_eq_some_iff.mp ha).1
      rw [drawnF_len] at this
      exact this
    refine Subscript_ ?_
    refine lcf_cell N3 rfl (List.mem_cons_of_mem _ (List.mem_append_right _ (List.mem_cons_of_mem _ (List.mem_cons_of_mem _ k2)))) ho2 ?_ rfl rfl
    refine wpAny_BinOp ?_
    refine ldC rfl rfl N3 hoC hm ?_
    refine wpAny_Constant_int ?_
    refine PyProof.Rows.mod_int (by decide) ?_
    rw [(idx14 a).1]
    obtain ⟨t2, ht2⟩ := sa_get hfv (foldStr_get a)
    have h14 := (idx14 a).2
    refine item_list (items := fv.toArray) (x := .str (foldStr a) t2) ⟨_, (N3 _ (List.mem_cons_of_mem _ (List.mem_append_right _ (List.mem_cons_of_mem _ (List.mem_cons_of_mem _ k4))))).1, rfl, _, rfl⟩ (by omega) (by omega) (by rw [Int.toNat_natCast, List.getElem?_toArray]; exact ht2) ?_ (by with_unfolding_all rfl) (by intro _; with_unfolding_all rfl)
    refine ⟨h, _, G', rfl, F3, N3, hG, ?_, hi9⟩
    rw [take_snoc ha, List.map_append]
    exact sa_snoc hV.1 _ _
  intro C oC mC D1 h tk G' ys hys hG F3 N3 hoC off3 hCD
  have hys9 : StrsAre ys ((drawnF ns).map foldStr) := by
    have e : dv.length = 9 := by rw [ia_len hdv, drawnF_len]
    have := hys.1
    rw [e, show (drawnF ns).take 9 = drawnF ns from List.take_of_length_le (by rw [drawnF_len]; exact Nat.le_refl _)] at this
    exact this
  refine end_plain F3 N3 hoC off3 hCD ?_
  intro h4 F4 N4
  refine spliced_none ?_
  refine join_list (ys := (drawnF ns).map foldStr) (items := ys.toArray) ⟨_, (N4 _ List.mem_cons_self).1, rfl, _, rfl⟩ hys9 ?hok ?_
  case hok =>
    have h1 := sum_le3 (drawnF ns)
    have h2 : (Str.ofString "").length = 0 := rfl
    rw [drawnF_len] at h1
    rw [h2]
    omega
  intro t5 k5
  have hjl : (Txt.join (Str.ofString "") ((drawnF ns).map foldStr)).cps.toList = (drawnF ns).flatMap fun v => (foldStr v).cps.toList := by
    rw [join_empty, List.flatMap_map]
  have hjl2 : (Txt.join (Str.ofString "") ((drawnF ns).map foldStr)).cps.toList.length ≤ 100 := by
    have h1 := StrLaws.join_length_le (Str.ofString "") ((drawnF ns).map foldStr)
    have h2 := sum_le3 (drawnF ns)
    have h3 : (Str.ofString "").length = 0 := rfl
    rw [drawnF_len] at h2
    rw [h3] at h1
    rw [join_empty, List.length_flatMap]
    have h4 : ((drawnF ns).map foldStr).map (fun p => p.cps.toList.length) = ((drawnF ns).map foldStr).map (·.length) := List.map_congr_left fun x _ => (str_size x).symm
    rw [h4]
    omega
  refine add_strL (x := Str.ofString "fil") ?hs5 ?_
  case hs5 =>
    have : (Str.ofString "fil").cps.toList.length = 3 := rfl
    omega
  intro z t6 k6 hz
  have hz' : z.cps.toList = textF ns := by rw [hz, hjl]; rfl
  have N4' : News h₀ L h4 ((L + 1 + 1 + 1, o3) :: (L + 1 + 1 + 1 + 1, o4) :: news) := News.tail' N4
  refine storeX_C F4 N4' rfl (UpdF.head ?_) ho3 ?_
  · intro p hp
    rcases List.mem_cons.mp hp with h | h
    · rw [h]; exact Nat.succ_ne_self _
    · exact (off p h).1
  intro h7 o3' F7 N7 ho3'
  dsimp only
  refine wpAny_execs_cons ?_
  refine wpAny_Assign_Name (hs := ?hs1) ?_
  case hs1 => rfl
  refine comp_eval (cl := [("text", L + 1 + 1 + 1)]) rfl rfl (by decide) ?_
  refine wpAny_Constant_str ?_
  refine comp_str (V := fun i ys => IntsAre ys ((cnt (textF ns)).take i) ∧ i ≤ 3) (.inl hh) rfl (by decide) rfl (by decide +kernel) F7 N7 (Nat.le_of_ble_eq_true rfl) ⟨.nil, Nat.zero_le _⟩ ?vl2 ?el2 ?hq2
  case vl2 =>
    intro i ys h
    rw [ia_len h.1, List.length_take]
    show min i 3 = i
    omega
  case el2 =>
    intro i ys h tk C oC mC own c u hc hV F10 N10 hoC hm E''
    have h3 := fil_at hc (textF ns)
    refine MethodCall_ ?_
    refine lcf_cell N10 rfl (List.mem_cons_of_mem _ (List.mem_append_right _ List.mem_cons_self)) ho3' (GM.count ?_) rfl rfl
    refine PyProof.Rows.callWith_method1 (spliced_more (ldC rfl rfl N10 hoC hm (spliced_none (SC.count ?_))))
    refine ⟨h, _, rfl, F10, N10, ?_, ?_⟩
    · rw [count_one, hz', take_snoc h3]
      exact ia_snoc hV.1 _ _
    · have := (List.getElem?_eq_some_iff.mp h3).1
      exact this
  intro C oC mC Dv h tk ys hys F10 N10 hoC off10 hCD
  refine end_plain F10 N10 hoC off10 hCD ?_
  intro h11 F11 N11
  have hv4 : L + 1 + 1 + 1 + 1 ≠ Dv := (off10 (L + 1 + 1 + 1 + 1, o4) (List.mem_cons_of_mem _ List.mem_cons_self)).2
  have hvn : ∀ p ∈ news, p.1 ≠ Dv := fun p hp => (off10 p (List.mem_cons_of_mem _ (List.mem_cons_of_mem _ hp))).2
  have N11' : News h₀ L h11 ((L + 1 + 1 + 1 + 1, o4) :: (Dv, lst ys) :: news) := News.sub N11 (by
    intro p hp
    simp only [List.mem_cons] at hp ⊢
    rcases hp with h | h | h <;> simp [h])
  refine storeX_C F11 N11' rfl (UpdF.head ?_) ho4 ?_
  · intro p hp
    rcases List.mem_cons.mp hp with h | h
    · rw [h]; exact Ne.symm hv4
    · exact (off p h).2
  intro h12 o4' F12 N12 ho4'
  exact kont h12 _ G' _ Dv ys o4' hG F12 N12 hvn hv4 ho4' hys.1 hm0 hm2
end
end Mine
end

/-! part M27 -/
section
open PySem PySem.W PyProof.Rows PySem.Calls PyProof.Rows.LCg
namespace Mine
/-- pairs of numbers, the greater -/
noncomputable def gtP (a b c d : Int) : Bool := if a = c then decide (b > d) else decide (a > c)
section
variable {w : World} {A : Around} {E : Value → Shared → Prop} {s : Shared} {h₀ : Heap} {L : Addr} {m : Str → Option Value} {news : List (Addr × Obj)}
theorem rcGt {a b : Int} {t u : Tok} {Q : Value → Shared → Prop} (h : Q (.bool (decide (a > b))) s) : wpAny (model PW w) A (richCompare .Gt (.int a t) (.int b u)) Q E s :=
  richCompare_gives (op := .Gt) (typeIs_int s _ t) (typeIs_int s _ u) PySem.F.slot_int_gt PySem.F.entry_int_gt (PySem.F.args_int_gt_2 _ _) (gives_int_gt _ _ t u) (fun x => nomatch x) h
theorem gtT_tree {x y : Addr} {a b c d : Int} {t1 t2 u1 u2 : Tok} {P : PySem.Fin → Shared → Prop} (hx : s.heap.get? x = some (pairO (.int a t1) (.int b t2))) (hy : s.heap.get? y = some (pairO (.int c u1) (.int d u2))) (hne : b ≠ d)
    (h : P (.done (.ret (.bool (gtP a b c d)))) s) : wpAny (model PW w) A (Builtin.«tuple.__gt__» ⟨[.ref x, .ref y], []⟩) P E s := by
  have hTb : s.TypeIs (.ref y) "tuple" := ⟨_, hy, rfl⟩
  show wpAny _ _ (isInstance (.ref y) (.type "tuple") >>= _) _ _ s
  refine wpAny_bind (wpAny_isInstance hTb isSubtype_tuple_tuple ?_)
  simp only [Bool.not_true, Bool.false_eq_true, if_false]
  refine wpAny_bind (wpAny_tupleItemsOf hx rfl ?_)
  refine wpAny_bind (wpAny_tupleItemsOf hy rfl ?_)
  refine wpAny_bind ?_
  refine wpAny_forIn_list _
    (fun rest r s' => r.1 = none ∧ s' = s ∧ ((rest = [(.int a t1, .int c u1), (.int b t2, .int d u2)]) ∨ (a = c ∧ rest = [(.int b t2, .int d u2)])))
    _ ?_ ?_ _ _ ⟨rfl, rfl, .inl rfl⟩
  · rintro ⟨u, v⟩ rest r s' ⟨hr, rfl, hc⟩
    rcases hc with hc | ⟨hac, hc⟩
    · simp only [List.cons.injEq, Prod.mk.injEq] at hc
      obtain ⟨⟨rfl, rfl⟩, rfl⟩ := hc
      refine wpAny_bind (wpAny_eqBool_int ?_)
      by_cases hk : a = c
      · rw [show (a == c) = true from beq_iff_eq.mpr hk]
        simp only [Bool.not_true, Bool.false_eq_true, if_false]
        exact wpAny_pure ⟨rfl, rfl, .inr ⟨hk, trivial⟩⟩
      · rw [show (a == c) = false from beq_eq_false_iff_ne.mpr hk]
        simp only [Bool.not_false, if_true]
        refine wpAny_bind (wpAny_rule ?_)
        refine wpAny_bind (rcGt ?_)
        refine wpAny_bind (wpAny_pure ?_)
        refine wpAny_pure ?_
        dsimp only
        refine wpAny_pure ?_
        rw [gtP, if_neg hk] at h
        exact h
    · simp only [List.cons.injEq, Prod.mk.injEq] at hc
      obtain ⟨⟨rfl, rfl⟩, rfl⟩ := hc
      refine wpAny_bind (wpAny_eqBool_int ?_)
      rw [show (b == d) = false from beq_eq_false_iff_ne.mpr hne]
      simp only [Bool.not_false, if_true]
      refine wpAny_bind (wpAny_rule ?_)
      refine wpAny_bind (rcGt ?_)
      refine wpAny_bind (wpAny_pure ?_)
      refine wpAny_pure ?_
      dsimp only
      refine wpAny_pure ?_
      rw [gtP, if_pos hac] at h
      exact h
  · rintro ⟨r1, r2⟩ s' ⟨hr, rfl, hc⟩
    rcases hc with hc | ⟨_, hc⟩ <;> cases hc
theorem gtT {x y : Addr} {a b c d : Int} {t1 t2 u1 u2 : Tok} {Q : Value → Shared → Prop} (hx : s.heap.get? x = some (pairO (.int a t1) (.int b t2))) (hy : s.heap.get? y = some (pairO (.int c u1) (.int d u2))) (hne : b ≠ d) (hu : A.units < cLine)
    (h : Q (.bool (gtP a b c d)) s) : wpAny (model PW w) A (richCompare .Gt (.ref x) (.ref y)) Q E s :=
  have hT : s.TypeIs (.ref x) "tuple" := ⟨_, hx, rfl⟩
  wpAny_richCompare_same_room (op := .Gt) hT ⟨_, hy, rfl⟩ PySem.F.slot_tuple_gt
    (wpAny_call_entry PySem.F.slot_tuple_gt hT PySem.F.entry_tuple_gt (gtT_tree hx hy hne ⟨_, rfl, (fun e => nomatch e), h⟩) (PySem.F.args_tuple_gt_2 _ _)) hu

/-- max over a list on the ledger, any items: the comparison is told -/
theorem max_loopN {I S l : Addr} {oA : Obj} {vs : List Value} {R : Result → Shared → Prop} (bt : Nat → Nat → Bool) (hh : A.handled = none) (hl : (l, oA) ∈ news) (hoA : LO oA vs) (hSI : S ≠ I) (hnS : ∀ p ∈ news, p.1 ≠ S) (hnI : ∀ p ∈ news, p.1 ≠ I)
    (cmp : ∀ i j vi vj, vs[i]? = some vi → vs[j]? = some vj → j < i → ∀ (h : Heap) (tk : Nat) (Q E' : Value → Shared → Prop), News h₀ L h news → Q (.bool (bt i j)) { s with heap := h, toks := tk } → wpAny (model PW w) A.in1 (richCompare .Gt vi vj) Q E' { s with heap := h, toks := tk })
    (hR : ∀ v h' tk', vs[argBest bt (vs.length - 1)]? = some v → Fr h₀ L h' m → News h₀ L h' news → R (.ok (.ret v)) { s with heap := h', toks := tk' }) :
    ∀ (r j : Nat) (h : Heap) (tk : Nat) (vb : Value) (c : Nat) (oI : Obj), vs.length - (j + 1) = r → j + 1 ≤ vs.length → Fr h₀ L h m →
      News h₀ L h ((S, seqObj "list" #[vb, vb] c) :: (I, oI) :: news) → LI oI l (j + 1) → vs[argBest bt j]? = some vb → argBest bt j ≤ j →
      codeAny (model PW w) A (.builtin "max.loop" ⟨[.ref I, .none, .ref S], []⟩) R { s with heap := h, toks := tk } := by
  have hname : (toString "max" ++ toString ".loop" : String) = "max.loop" := by decide
  intro r
  induction r with
  | zero =>
    intro j h tk vb c oI hr hj F N hI hvb _
    have hin : j + 1 = vs.length := by omega
    have nS := N _ List.mem_cons_self
    have nI := N _ (List.mem_cons_of_mem _ List.mem_cons_self)
    have Nn : News h₀ L h news := fun p hp => N p (List.mem_cons_of_mem _ (List.mem_cons_of_mem _ hp))
    refine codeAny_builtin PySem.F.entry_max_loop ?_
    rw [Around.under_plainId PySem.F.plain_max_loop _]
    show wpAny _ A.in1 (seqItems? (.ref S) >>= _) _ _ _
    refine wpAny_bind (wpAny_seqItems nS.1 rfl ?_)
    show wpAny _ A.in1 (tryCatch (pyNext (.ref I)) _ >>= _) _ _ _
    refine wpAny_bind (wpAny_tryCatch (wpAny_pyNext_list_end hh (hI.at nI.1) (hoA.at (Nn _ hl).1) (by simp; omega) fun h' he' => ?_))
    have F1 : Fr h₀ L h' m := ⟨F.ns.at' fun o e => he' _ o (Ne.symm nI.2.1) e, fun b o e => he' b o (by rintro rfl; rw [nI.2.2] at e; cases e) (F.keep b o e), F.above⟩
    have hS' := he' S _ hSI nS.1
    have N1 : News h₀ L h' news := fun p hp => ⟨he' _ _ (hnI p hp) (Nn p hp).1, (Nn p hp).2⟩
    have s1 := Heap.SameBut.update h' S (Obj.mapSeq fun _ => (#[] : Array Value))
    show wpAny _ A.in1 (updateSeq S (fun _ => #[]) >>= _) _ _ _
    refine wpAny_bind ?_
    refine wpAny_updateSeq hS' rfl (wpAny_bind (wpAny_letGo (wpAny_pure ?_)))
    have e : j = vs.length - 1 := by omega
    exact hR vb _ _ (by rw [← e]; exact hvb) (F1.change s1 nS.2.1 nS.2.2) (fun p hp => ⟨s1.extBut _ _ (hnS p hp) (N1 p hp).1, (N1 p hp).2⟩)
  | succ r ih =>
    intro j h tk vb c oI hr hj F N hI hvb hbj
    have hlt : j + 1 < vs.length := by omega
    have nS := N _ List.mem_cons_self
    have nI := N _ (List.mem_cons_of_mem _ List.mem_cons_self)
    have Nn : News h₀ L h news := fun p hp => N p (List.mem_cons_of_mem _ (List.mem_cons_of_mem _ hp))
    refine codeAny_builtin PySem.F.entry_max_loop ?_
    rw [Around.under_plainId PySem.F.plain_max_loop _]
    show wpAny _ A.in1 (seqItems? (.ref S) >>= _) _ _ _
    refine wpAny_bind (wpAny_seqItems nS.1 rfl ?_)
    show wpAny _ A.in1 (tryCatch (pyNext (.ref I)) _ >>= _) _ _ _
    refine wpAny_bind (wpAny_tryCatch (wpAny_pyNext_list_item (hI.at nI.1) (hoA.at (Nn _ hl).1) (x := vs[j + 1]) (by simp [hlt]) fun h' hit' hs' => ?_))
    have hv : vs[j + 1]? = some vs[j + 1] := List.getElem?_eq_getElem hlt
    obtain ⟨oI', hoI', hoc, hod⟩ := hit'
    have F1 := F.change hs' nI.2.1 nI.2.2
    have hS' := hs'.extBut S _ hSI nS.1
    have N1 : News h₀ L h' news := fun p hp => ⟨hs'.extBut _ _ (hnI p hp) (Nn p hp).1, (Nn p hp).2⟩
    show wpAny _ A.in1 (tryCatch (holding [vs[j + 1], vs[j + 1]] (richCompare .Gt vs[j + 1] vb >>= _)) _ >>= _) _ _ _
    refine wpAny_bind (wpAny_tryCatch (wpAny_holding (wpAny_bind (cmp (j + 1) (argBest bt j) _ _ hv hvb (Nat.lt_succ_of_le hbj) h' tk _ _ N1 ?_))))
    refine wpAny_bind (wpAny_holding (wpAny_truthy_bool ?_))
    refine wpAny_bind (wpAny_letGo (wpAny_pure ?_))
    cases hb : bt (j + 1) (argBest bt j) with
    | true =>
      simp only [if_true]
      have s1 := Heap.SameBut.update h' S (Obj.mapSeq fun _ => #[vs[j + 1], vs[j + 1]])
      refine wpAny_bind ?_
      refine wpAny_updateSeq hS' rfl (wpAny_bind (wpAny_letGo ?_))
      rw [hname]
      refine wpAny_pure ⟨plainId_quiet PySem.F.plain_max_loop _, ih (j + 1) _ _ vs[j + 1] c oI' (by omega) hlt (F1.change s1 nS.2.1 nS.2.2) ?_ ⟨hoc, hod⟩ (by simp only [argBest, hb, if_true]; exact hv) (by simp only [argBest, hb, if_true]; exact Nat.le_refl _)⟩
      refine News.more1 ?_ nS.2 (News.more1 ((s1.2 I (Ne.symm hSI)).trans hoI') nI.2 fun p hp => ⟨s1.extBut _ _ (hnS p hp) (N1 p hp).1, (N1 p hp).2⟩)
      exact (get?_update_seq hS' fun _ => #[vs[j + 1], vs[j + 1]])
    | false =>
      simp only [Bool.false_eq_true, if_false]
      refine wpAny_bind (wpAny_letGo ?_)
      rw [hname]
      refine wpAny_pure ⟨plainId_quiet PySem.F.plain_max_loop _, ih (j + 1) _ _ vb c oI' (by omega) hlt F1 ?_ ⟨hoc, hod⟩ (by simp only [argBest, hb, Bool.false_eq_true, if_false]; exact hvb) (by simp only [argBest, hb, Bool.false_eq_true, if_false]; omega)⟩
      exact News.more1 hS' nS.2 (News.more1 hoI' nI.2 N1)
end
end Mine
end

/-! part M28 -/
section
open PySem PySem.W PyProof.Rows PySem.Calls PyProof.Rows.LCg
namespace Mine
section
variable {w : World} {A : Around} {E : Value → Shared → Prop} {s : Shared} {h₀ : Heap} {L : Addr} {m : Str → Option Value} {news : List (Addr × Obj)}
theorem max_callN {l : Addr} {oA : Obj} {vs : List Value} {Q : Value → Shared → Prop} (bt : Nat → Nat → Bool) (hh : A.handled = none) (F : Fr h₀ L s.heap m) (N : News h₀ L s.heap news) (hl : (l, oA) ∈ news) (hoA : LO oA vs) (hne : 0 < vs.length)
    (cmp : ∀ i j vi vj, vs[i]? = some vi → vs[j]? = some vj → j < i → ∀ (h : Heap) (tk : Nat) (Q E' : Value → Shared → Prop), News h₀ L h news → Q (.bool (bt i j)) { s with heap := h, toks := tk } → wpAny (model PW w) A.in1 (richCompare .Gt vi vj) Q E' { s with heap := h, toks := tk })
    (h : ∀ v h' tk', vs[argBest bt (vs.length - 1)]? = some v → Fr h₀ L h' m → News h₀ L h' news → Q v { s with heap := h', toks := tk' }) :
    wpAny (model PW w) A (call (.builtin "max") [.ref l]) Q E s := by
  have hname : (toString "max" ++ toString ".loop" : String) = "max.loop" := by decide
  refine call_function_tree PySem.F.kind_max PySem.F.plain_max PySem.F.entry_max (PySem.F.args_max1 _) ?_
  show wpAny _ A.in1 (Builtin.Builtins.bindParams "max" ["key", "default"] 0 ⟨[], []⟩ >>= _) _ _ s
  refine wpAny_bind (wpAny_of_eq (show Builtin.Builtins.bindParams "max" ["key", "default"] 0 ⟨[], []⟩ = pure [none, none] from rfl) ?_)
  refine wpAny_bind (wpAny_pure ?_)
  refine wpAny_bind (wpAny_pyIter_list (hoA.at (N _ hl).1) ?_)
  have F2 := F.push { cls := .type "list_iterator", data := .fields #[.ref l, .int 0 0] }
  have N2 := N.push F { cls := .type "list_iterator", data := .fields #[.ref l, .int 0 0] }
  have offI : ∀ p ∈ news, p.1 ≠ s.heap.objs.size := fun p hp => Nat.ne_of_lt (Heap.lt_size (N p hp).1)
  try dsimp only
  generalize (s.heap.push { cls := .type "list_iterator", data := .fields #[.ref l, .int 0 0] }) = H2 at F2 N2 ⊢
  generalize s.heap.objs.size = I at N2 offI ⊢
  refine wpAny_bind (wpAny_newObj_type ?_)
  have F3 := F2.push { cls := .type "list", data := .seq ([] : List Value).toArray }
  have N3 := N2.push F2 { cls := .type "list", data := .seq ([] : List Value).toArray }
  have offS : ∀ p ∈ news, p.1 ≠ H2.objs.size := fun p hp => Nat.ne_of_lt (Heap.lt_size (N2 p (List.mem_cons_of_mem _ hp)).1)
  have hSI : H2.objs.size ≠ I := Nat.ne_of_gt (Heap.lt_size (N2 _ List.mem_cons_self).1)
  try dsimp only
  generalize (H2.push { cls := .type "list", data := .seq ([] : List Value).toArray }) = H3 at F3 N3 ⊢
  generalize H2.objs.size = S at N3 offS hSI ⊢
  rw [hname]
  refine wpAny_pure ⟨plainId_quiet PySem.F.plain_max_loop _, ?_⟩
  have nS := N3 _ List.mem_cons_self
  have nI := N3 _ (List.mem_cons_of_mem _ List.mem_cons_self)
  have Nn : News h₀ L H3 news := fun p hp => N3 p (List.mem_cons_of_mem _ (List.mem_cons_of_mem _ hp))
  refine codeAny_builtin PySem.F.entry_max_loop ?_
  rw [Around.under_plainId PySem.F.plain_max_loop _]
  show wpAny _ A.in1 (seqItems? (.ref S) >>= _) _ _ _
  refine wpAny_bind (wpAny_seqItems nS.1 rfl ?_)
  show wpAny _ A.in1 (tryCatch (pyNext (.ref I)) _ >>= _) _ _ _
  refine wpAny_bind (wpAny_tryCatch (wpAny_pyNext_list_item (i := 0) ⟨_, nI.1, rfl, rfl⟩ (hoA.at (Nn _ hl).1) (x := vs[0]) (by simp [hne]) fun h' hit' hs' => ?_))
  have hv : vs[0]? = some vs[0] := List.getElem?_eq_getElem hne
  obtain ⟨oI', hoI', hoc, hod⟩ := hit'
  have F4 := F3.change hs' nI.2.1 nI.2.2
  have hS' := hs'.extBut S _ hSI nS.1
  have N4 : News h₀ L h' news := fun p hp => ⟨hs'.extBut _ _ (offI p hp) (Nn p hp).1, (Nn p hp).2⟩
  show wpAny _ A.in1 (updateSeq S (fun _ => #[vs[0], vs[0]]) >>= _) _ _ _
  have s1 := Heap.SameBut.update h' S (Obj.mapSeq fun _ => #[vs[0], vs[0]])
  refine wpAny_bind ?_
  refine wpAny_updateSeq hS' rfl ?_
  rw [hname]
  refine wpAny_pure ⟨plainId_quiet PySem.F.plain_max_loop _, max_loopN (s := s) bt hh hl hoA hSI offS offI cmp (fun v h5 tk5 hv5 F5 N5 => h v h5 tk5 hv5 F5 N5) _ 0 _ _ vs[0] 1 oI' rfl hne (F4.change s1 nS.2.1 nS.2.2) ?_ ⟨hoc, hod⟩ hv (Nat.le_refl _)⟩
  refine News.more1 ?_ nS.2 (News.more1 ((s1.2 I (Ne.symm hSI)).trans hoI') nI.2 fun p hp => ⟨s1.extBut _ _ (offS p hp) (N4 p hp).1, (N4 p hp).2⟩)
  exact (get?_update_seq hS' fun _ => #[vs[0], vs[0]])
end
end Mine
end

/-! part M29 -/
section
open PySem PySem.W PyProof.Rows PySem.Calls PyProof.Rows.LCg
namespace Mine
theorem nm_votes (w : World) : nsIn (KW w.params) mainGlobals "_law_votes" = some (some (.ref 86)) := by kernel_rfl
theorem keep86 (w : World) : keepIn (KW w.params) (.ref 86) = true := by kernel_rfl
theorem nm_dealt (w : World) : nsIn (KW w.params) mainGlobals "_law_dealt" = some (some (.ref 98)) := by kernel_rfl
theorem keep98 (w : World) : keepIn (KW w.params) (.ref 98) = true := by kernel_rfl
/-- sixty for each vote -/
noncomputable def heldF (ns : List Int) : List Int := (cnt (textF ns)).map (60 * ·)
noncomputable def sizeF (ns : List Int) : Int := dSize (heldF ns) (seatsN ns) (seatsN ns)
section
variable {w : World} {A A₀ : Around} {E : Value → Shared → Prop} {s : Shared} {h₀ base : Heap} {L : Addr} {m : Str → Option Value} {news : List (Addr × Obj)} {mean : ExcName → Option Value} {mg mb : Str → Option Value}
  {fa : Addr} {cd : Value}
set_option maxHeartbeats 1600000 in
theorem lawD' {Q : Flow → Shared → Prop} {ns : List Int} {Do Dv : Addr} {wv vv : List Value} {c : Nat} {o4 : Obj} {tS : Tok} (B : Below A₀ base [] h₀) (hA : A.frames = some [lwE L fa cd]) (hroom : A.depth + 30 < recursionLimit) (hu : A.units + 64 < cLine) (hh : A.handled = none) (hg : AllBare s.gens)
    (F : Fr h₀ L s.heap m) (N : News h₀ L s.heap ((L + 1 + 1 + 1 + 1, o4) :: (Dv, lst vv) :: news)) (G : Gd w mean mg mb h₀) (Gb : Gd w mean mg mb base)
    (k1 : (Do, listOf wv.toArray c) ∈ news) (hwv : IntsAre wv (octs (codesOf ns))) (ho4 : o4.data = .cell (some (.ref Dv))) (hvv : IntsAre vv (cnt (textF ns)))
    (hm0 : m "octets" = some (.ref Do)) (hm2 : m "seats" = some (.int ((seatsN ns : Nat) : Int) tS))
    (hT : Tape (octs (codesOf ns)) (codesOf ns)) (hbig : ∀ a ∈ octs (codesOf ns), 0 ≤ a ∧ a < 128) (hcnt : cnt (flat (codesOf ns)) = cnt (textF ns)) (hlt : ∀ a ∈ cnt (textF ns), 0 ≤ a ∧ a < 1000)
    (hgood : ∀ j, j ≤ seatsN ns → 1 ≤ dSize (heldF ns) (seatsN ns) j ∧ dSize (heldF ns) (seatsN ns) j ≠ 127 ∧ dSize (heldF ns) (seatsN ns) j ≠ 126)
    (kont : ∀ h' tk' G' m' D2 ys tZ, AllBare G' → Fr h₀ L h' m' → News h₀ L h' ((L + 1 + 1 + 1 + 1, o4) :: (D2, lst ys) :: (Dv, lst vv) :: news) → IntsAre ys (dealtF (heldF ns) (seatsN ns) (sizeF ns)) →
      m' "size" = some (.int (sizeF ns) tZ) → m' "dealt" = some (.ref D2) → m' "seats" = some (.int ((seatsN ns : Nat) : Int) tS) →
      wpAny (model PW w) A (execs (lwB.drop 10) (lwE L fa cd)) Q E { s with heap := h', toks := tk', gens := G' }) :
    wpAny (model PW w) A (execs (lwB.drop 8) (lwE L fa cd)) Q E s := by
  have hmc : ((L + 1 + 1 + 1 + 1 : Nat), o4) ∈ ((L + 1 + 1 + 1 + 1, o4) :: (Dv, lst vv) :: news : List (Addr × Obj)) := List.mem_cons_self
  refine wpAny_execs_cons ?_
  refine wpAny_If ?_
  refine wpAny_isTrue_Compare1 ?_
  refine Call_ (nameX_K F G.K (topRead_of G.T) (nm_votes w) (callWith_K G.K (keep86 w) (spliced_more (nameX_L F hm0 (spliced_none ⟨G.K.keeps F.keep, ?_⟩)))))
  refine votes_call B F N G Gb hA rfl rfl (by omega) hh (List.mem_cons_of_mem _ (List.mem_cons_of_mem _ k1)) ⟨rfl, _, rfl⟩ hwv hT hbig ?hl ?_
  case hl =>
    refine Nat.lt_of_le_of_lt (octs_len _) ?_
    rw [codesOf_len]
    decide
  intro D1 ys1 h1 tk1 hys1 F1 N1 off1
  refine nameX_C N1 rfl (List.mem_cons_of_mem _ List.mem_cons_self) ho4 ?_
  refine ne_intsK (ns := cnt (flat (codesOf ns))) (ms := cnt (textF ns)) ⟨_, (N1 _ List.mem_cons_self).1, rfl, _, rfl⟩ hys1 ⟨_, (N1 _ (List.mem_cons_of_mem _ (List.mem_cons_of_mem _ List.mem_cons_self))).1, rfl, _, rfl⟩ hvv hu ?_
  refine wpAny_truthy_bool ?_
  rw [hcnt, decide_eq_true rfl, if_neg (by decide)]
  refine wpAny_execs_nil ?_
  dsimp only
  refine wpAny_execs_cons ?_
  refine Assign_Tuple ?_
  have N1' : News h₀ L h1 ((L + 1 + 1 + 1 + 1, o4) :: (Dv, lst vv) :: news) := News.tail' N1
  refine Call_ (nameX_K F1 G.K (topRead_of G.T) (nm_dealt w) (callWith_K G.K (keep98 w) (spliced_more ?_)))
  refine nameX_C N1' rfl hmc ho4 ?_
  refine spliced_more (nameX_L F1 hm2 (spliced_none ⟨G.K.keeps F1.keep, ?_⟩))
  refine dealt_call (ns := cnt (textF ns)) (n := seatsN ns) B F1 N1' G hA rfl rfl (by omega) hg hh (List.mem_cons_of_mem _ List.mem_cons_self) (LO.lst vv) hvv rfl hlt (Nat.lt_trans (seatsN_lt ns).2 (by decide)) hgood ?_
  intro T D2 tZ h2 tk2 G2 ys hys F2 N2 hG2
  refine kcp_assign (env := lwE L fa cd) hh (x := .int (sizeF ns) tZ) (y := .ref D2) ⟨_, (N2 _ List.mem_cons_self).1, rfl, _, rfl⟩ rfl rfl rfl F2.ns ?_
  intro h3 tk3 hn3 hk3
  have F3 : Fr h₀ L h3 _ := ⟨hn3, fun b o e => hk3 b o (by
    rintro rfl
    have := kts_self F2
    rw [this] at e; cases e) (F2.keep b o e), F2.above⟩
  have N3 : News h₀ L h3 ((L + 1 + 1 + 1 + 1, o4) :: (D2, lst ys) :: (Dv, lst vv) :: news) := fun p hp => by
    have z := N2 p (by
      simp only [List.mem_cons] at hp ⊢
      rcases hp with h | h | h | h <;> simp [h])
    exact ⟨hk3 _ _ z.2.1 z.1, z.2⟩
  exact kont h3 tk3 G2 _ D2 ys tZ hG2 F3 N3 hys rfl rfl hm2
end
end Mine
end

/-! part M30 -/
section
open PySem PySem.W PyProof.Rows PySem.Calls PyProof.Rows.LCg
namespace Mine
section
variable {w : World} {A : Around} {E : Value → Shared → Prop} {s : Shared} {h₀ : Heap} {L : Addr} {m : Str → Option Value} {env : Env} {news : List (Addr × Obj)}
/-- over range(n), each turn makes one object -/
theorem comp_range {use : Option (Value → Sem Unit)} {elt iter : PySem.Expr} {x : Str} {px : Pos} {scope : Scope} {cl : List (Str × Addr)} {pos : Pos} {r : Addr} {n : Nat} {t u v : Tok} {Q : Value → Shared → Prop} {V : Nat → List Value → List (Addr × Obj) → Prop}
    (hh : A.handled = none) (hkind : scope.kind = .function) (hcell : ∀ y ∈ scope.names, y.2 ≠ .cell) (hx : scope.names.lookup x = some .local)
    (F : Fr h₀ L s.heap m) (N : News h₀ L s.heap news) (hr : IsRange s.heap r 0 n 1 t u v) (hn : n < 1000) (hV0 : V 0 [] []) (hVl : ∀ i ys new, V i ys new → ys.length = i)
    (elt_ : ∀ i ys new h tk C oC mC own t', i < n → V i ys new → Fr h₀ L h m → News h₀ L h ((C, oC) :: (own ++ (new ++ news))) → NsObj oC mC → mC x = some (.int (i : Int) t') → ∀ E' : Value → Shared → Prop,
      wpAny (model PW w) A (eval elt (compEnvC scope cl C env)) (fun y s₄ => ∃ h' tk' T o, s₄ = { s with heap := h', toks := tk' } ∧ Fr h₀ L h' m ∧ News h₀ L h' ((T, o) :: (C, oC) :: (own ++ (new ++ news))) ∧ (∀ p ∈ (C, oC) :: (own ++ (new ++ news)), p.1 ≠ T) ∧ V (i + 1) (ys ++ [y]) ((T, o) :: new)) E'
        { s with heap := h, toks := tk })
    (hQ : ∀ C oC mC D h tk ys new, V n ys new → Fr h₀ L h m → News h₀ L h ((C, oC) :: (D, lst ys) :: (new ++ news)) → NsObj oC mC → Off2 C D (new ++ news) → C ≠ D → compPost (model PW w) A E use Q (.ref D) C (.ok .next) { s with heap := h, toks := tk }) :
    wpAny (model PW w) A (pyIter (.ref r)) (fun it s₂ =>
      wpAny (model PW w) A (newList []) (fun acc s₃ => wpAny (model PW w) A (newFunctionEnv scope env.globals cl [] env.qual none .none (some env)) (fun cenv s₄ =>
        codeAny (model PW w) A (.compStart (.ListComp elt [⟨.Name x px, iter, [], 0⟩] scope pos) 0 it acc { cenv with scope := relabel scope env }) (compPost (model PW w) A E use Q acc cenv.locals) s₄) E s₃) E s₂) E s := by
  have hsmall : Builtin.Range.small 0 (n : Int) 1 = true := small_one (by decide) (by decide) (by omega) (by omega)
  refine wpAny_pyIter_range hr hsmall ?_
  have hn' : Builtin.Range.rangeSize 0 (n : Int) 1 = (n : Int) := by rw [rangeSize_nat]; omega
  rw [hn']
  have F2 := F.push (rI 0 (n : Int))
  have N2 := N.push F (rI 0 (n : Int))
  have offI : ∀ p ∈ news, p.1 ≠ s.heap.objs.size := fun p hp => Nat.ne_of_lt (Heap.lt_size (N p hp).1)
  generalize s.heap.objs.size = I at F2 N2 offI ⊢
  refine comp_block (s := { s with heap := _ }) (n := n) (J := fun k ys nw G => G = s.gens ∧ ∃ (i : Nat) (new : List (Addr × Obj)), nw = (I, rI (i : Int) ((n : Int) - (i : Int))) :: (new ++ news) ∧ i + k = n ∧ V i ys new ∧ ∀ p ∈ new ++ news, p.1 ≠ I)
    (Fin := fun ys nw G => G = s.gens ∧ ∃ new, nw = new ++ news ∧ V n ys new) hkind hcell F2 N2 ⟨rfl, 0, [], by simp, Nat.zero_add _, hV0, offI⟩ (fun h tk E' Q' Nh hq => ?_) (fun k ys nw G h tk C oC mC D hJ F3 N3 hoC off hCD E' => ?_) (fun ys nw G h tk C oC mC D hJ F3 N3 hoC off hCD E' => ?_)
    (fun C oC mC D h tk G ys nw hfin F4 N4 hoC off hCD => ?_)
  · exact wpAny_pyIter_rangeiter (Nh _ List.mem_cons_self).1 hq
  · obtain ⟨rfl, i, new, rfl, hik, hV, hoI⟩ := hJ
    have zI := N3 _ (List.mem_cons_of_mem _ (List.mem_cons_of_mem _ List.mem_cons_self))
    have hIC := (off _ List.mem_cons_self)
    have hi : i < n := by omega
    refine wpAny_pyNext_range_item zI.1 (by omega) fun h5 hit5 hs5 => ⟨_, rfl, ?_⟩
    have F5 := F3.change hs5 zI.2.1 zI.2.2
    have N5 : News h₀ L h5 ((C, oC) :: (D, lst ys) :: (I, rI ((i : Int) + 1) ((n : Int) - (i : Int) - 1)) :: (new ++ news)) :=
      News.setAt (own := [(C, oC), (D, lst ys)]) N3 (by intro p hp; simp only [List.mem_cons, List.not_mem_nil, or_false] at hp; exact hp.elim (fun e => e ▸ Ne.symm hIC.1) (fun e => e ▸ Ne.symm hIC.2)) hoI hs5 hit5
    show wpAny _ _ (pure ()) _ _ _
    refine wpAny_pure (wpAny_assign_Name (storeC hkind hx F5 N5 hoC (by
      intro p hp
      rcases List.mem_cons.mp hp with rfl | hp
      · exact Ne.symm hCD
      · rcases List.mem_cons.mp hp with rfl | hp
        · exact hIC.1
        · exact (off p (List.mem_cons_of_mem _ hp)).1) fun h6 oC6 F6 N6 hoC6 => ?_))
    refine wpAny_tests_nil ?_
    simp only [if_true]
    refine wpAny_mono (elt_ i ys new h6 _ C oC6 _ [(D, lst ys), (I, rI ((i : Int) + 1) ((n : Int) - (i : Int) - 1))] _ hi hV F6 N6 hoC6 (if_pos rfl) E') (fun y s₄ h4 => ?_) fun _ _ e => e
    obtain ⟨h7, tk7, T, o, rfl, F7, N7, hT, hV7⟩ := h4
    have hTC : C ≠ T := hT _ List.mem_cons_self
    have hTD : D ≠ T := hT (D, lst ys) (by simp)
    have hTI : I ≠ T := hT (I, rI ((i : Int) + 1) ((n : Int) - (i : Int) - 1)) (by simp)
    have e1 : ((n : Int) - ((i + 1 : Nat) : Int)) = (n : Int) - (i : Int) - 1 := by omega
    refine ⟨by rw [hVl i ys new hV]; have : 1000 ≤ sizeLine := Nat.le_of_ble_eq_true rfl; omega, h7, tk7, s.gens, (I, rI ((i : Int) + 1) ((n : Int) - (i : Int) - 1)) :: ((T, o) :: new ++ news), oC6, _, rfl, F7, ?_, hoC6, fun p hp => ?_, rfl, i + 1, (T, o) :: new, by rw [e1]; rfl, by omega, hV7, fun p hp => ?_⟩
    · refine News.sub N7 fun p hp => ?_
      simp only [List.mem_cons, List.cons_append, List.nil_append, List.mem_append] at hp ⊢
      rcases hp with h | h | h | h | h | h <;> simp [h]
    · rcases List.mem_cons.mp hp with rfl | hp
      · exact hIC
      · rcases List.mem_cons.mp hp with rfl | hp
        · exact ⟨Ne.symm hTC, Ne.symm hTD⟩
        · exact off p (List.mem_cons_of_mem _ hp)
    · rcases List.mem_cons.mp hp with rfl | hp
      · exact Ne.symm hTI
      · exact hoI p hp
  · obtain ⟨rfl, i, new, rfl, hik, hV, hoI⟩ := hJ
    have zI := N3 _ (List.mem_cons_of_mem _ (List.mem_cons_of_mem _ List.mem_cons_self))
    obtain rfl : i = n := by omega
    have hIC := (off _ List.mem_cons_self)
    refine wpAny_pyNext_range_end hh zI.1 (by omega) fun h5 he5 => ⟨rfl, h5, tk, s.gens, new ++ news, oC, mC, rfl, ?_, ?_, hoC, fun p hp => off p (List.mem_cons_of_mem _ hp), rfl, new, rfl, hV⟩
    · exact ⟨F3.ns.at' fun o e => he5 _ o (Ne.symm zI.2.1) e, fun b o e => he5 b o (by rintro rfl; rw [zI.2.2] at e; cases e) (F3.keep b o e), F3.above⟩
    · intro p hp
      have q : p ∈ (C, oC) :: (D, lst ys) :: (I, rI (i : Int) ((i : Int) - (i : Int))) :: (new ++ news) := by
        rcases List.mem_cons.mp hp with rfl | hp
        · exact List.mem_cons_self
        · rcases List.mem_cons.mp hp with rfl | hp
          · exact List.mem_cons_of_mem _ List.mem_cons_self
          · exact List.mem_cons_of_mem _ (List.mem_cons_of_mem _ (List.mem_cons_of_mem _ hp))
      refine ⟨he5 _ _ ?_ (N3 p q).1, (N3 p q).2⟩
      rcases List.mem_cons.mp hp with rfl | hp
      · exact Ne.symm hIC.1
      · rcases List.mem_cons.mp hp with rfl | hp
        · exact Ne.symm hIC.2
        · exact hoI p hp
  · obtain ⟨rfl, new, rfl, hV⟩ := hfin
    exact hQ C oC mC D h tk ys new hV F4 N4 hoC off hCD
theorem setItem_C {D : Addr} {ys : List Value} {c : Nat} {own rest : List (Addr × Obj)} {k : Nat} {t : Tok} {v : Value} {Q : Unit → Shared → Prop} (F : Fr h₀ L s.heap m) (N : News h₀ L s.heap (own ++ (D, listOf ys.toArray c) :: rest)) (h1 : ∀ p ∈ own, p.1 ≠ D) (h2 : ∀ p ∈ rest, p.1 ≠ D)
    (hk : k < ys.length) (hk' : k < 1000) (h : ∀ h', Fr h₀ L h' m → News h₀ L h' (own ++ (D, listOf (ys.set k v).toArray c) :: rest) → Q () { s with heap := h' }) :
    wpAny (model PW w) A (setItem (.ref D) (.int (k : Int) t) v) Q E s := by
  have z := N (D, listOf ys.toArray c) (List.mem_append_right _ List.mem_cons_self)
  refine ki_setAt (items := ys.toArray) (n := c) z.1 (by omega) (by omega) (by simpa using hk) ?_
  have hs : Heap.SameBut D s.heap (s.heap.update D (Obj.mapSeq (·.setIfInBounds ((k : Int).toNat) v))) := Heap.SameBut.update ..
  refine h _ (F.change hs z.2.1 z.2.2) (News.setAt N h1 h2 hs ?_)
  have q := PySem.IsL.update (n := c) (items := ys.toArray) z.1 (·.setIfInBounds ((k : Int).toNat) v)
  refine Eq.trans q ?_
  rw [if_pos (by simp)]
  rw [Int.toNat_natCast, List.setIfInBounds_toArray]
end
end Mine
end

/-! part M31 -/
section
open PySem PySem.W PyProof.Rows PySem.Calls PyProof.Rows.LCg
namespace Mine
/-- a party's claim to the next seat -/
@[irreducible] noncomputable def quo (vs ss : List Int) (i : Nat) : Int := (60 * vs[i]!).fdiv (ss[i]! + 1)
noncomputable def bestK (vs ss : List Int) : Nat := argBest (fun i j => gtP (quo vs ss i) (-(i : Int)) (quo vs ss j) (-(j : Int))) 2
noncomputable def servedR (vs : List Int) : Nat → List Int
  | 0 => [0, 0, 0]
  | n + 1 => (servedR vs n).set (bestK vs (servedR vs n)) ((servedR vs n)[bestK vs (servedR vs n)]! + 1)
@[irreducible] noncomputable def servedF (vs : List Int) (n : Nat) : List Int := servedR vs n
theorem servedF_zero (vs : List Int) : servedF vs 0 = [0, 0, 0] := by unfold servedF; rfl
theorem servedF_succ (vs : List Int) (n : Nat) : servedF vs (n + 1) = (servedF vs n).set (bestK vs (servedF vs n)) ((servedF vs n)[bestK vs (servedF vs n)]! + 1) := by unfold servedF; rfl
theorem argBest_le (bt : Nat → Nat → Bool) : ∀ k, argBest bt k ≤ k
  | 0 => Nat.le_refl _
  | k + 1 => by
    have := argBest_le bt k
    rw [argBest]
    split <;> omega
theorem bestK_lt (vs ss : List Int) : bestK vs ss < 3 := Nat.lt_succ_of_le (argBest_le _ 2)
theorem servedF_ok (vs : List Int) : ∀ n, (servedF vs n).length = 3 ∧ ∀ a ∈ servedF vs n, 0 ≤ a ∧ a ≤ n
  | 0 => by
    rw [servedF_zero]
    refine ⟨rfl, fun a ha => ?_⟩
    simp only [List.mem_cons, List.not_mem_nil, or_false, or_self] at ha
    omega
  | n + 1 => by
    obtain ⟨h1, h2⟩ := servedF_ok vs n
    rw [servedF_succ]
    refine ⟨by rw [List.length_set]; exact h1, fun a ha => ?_⟩
    rcases List.mem_or_eq_of_mem_set ha with h | h
    · have := h2 a h
      omega
    · have hb := bestK_lt vs (servedF vs n)
      have hm : (servedF vs n)[bestK vs (servedF vs n)]! ∈ servedF vs n := by
        rw [List.getElem!_eq_getElem?_getD, List.getElem?_eq_getElem (by omega)]
        exact List.getElem_mem _
      have := h2 _ hm
      omega
theorem quo_eq (vs ss : List Int) (i : Nat) : quo vs ss i = (60 * vs[i]!).fdiv (ss[i]! + 1) := by unfold quo; rfl
theorem get_bang {l : List Int} {i : Nat} (h : i < l.length) : l[i]? = some l[i]! := by
  rw [List.getElem!_eq_getElem?_getD, List.getElem?_eq_getElem h]; rfl
/-- the pairs made so far -/
noncomputable def Prs (vs ss : List Int) (i : Nat) (ys : List Value) (new : List (Addr × Obj)) : Prop :=
  ys.length = i ∧ ∀ j, j < i → ∃ T t1 t2, ys[j]? = some (.ref T) ∧ (T, pairO (.int (quo vs ss j) t1) (.int (-(j : Int)) t2)) ∈ new
theorem prs_snoc {vs ss : List Int} {k : Nat} {ys : List Value} {new : List (Addr × Obj)} {T : Addr} {t1 t2 : Tok} (hV : Prs vs ss k ys new) :
    Prs vs ss (k + 1) (ys ++ [.ref T]) ((T, pairO (.int (quo vs ss k) t1) (.int (-(k : Int)) t2)) :: new) := by
  refine ⟨by rw [List.length_append, hV.1]; rfl, fun j hj => ?_⟩
  by_cases hjk : j < k
  · obtain ⟨T, a, b, p1, p2⟩ := hV.2 j hjk
    exact ⟨T, a, b, by rw [List.getElem?_append_left (by rw [hV.1]; exact hjk)]; exact p1, List.mem_cons_of_mem _ p2⟩
  · obtain rfl : j = k := by omega
    refine ⟨T, t1, t2, ?_, List.mem_cons_self⟩
    rw [List.getElem?_append_right (by rw [hV.1]; exact Nat.le_refl _), hV.1, Nat.sub_self]
    rfl
theorem nm_min' (w : World) : nsIn (KW w.params) mainGlobals "min" = some none := nm_min w
section
variable {w : World} {A A₀ : Around} {E : Value → Shared → Prop} {s : Shared} {h₀ base : Heap} {L : Addr} {m : Str → Option Value} {news : List (Addr × Obj)} {mean : ExcName → Option Value} {mg mb : Str → Option Value}
  {fa : Addr} {cd : Value}
set_option maxHeartbeats 1600000 in
theorem lawF {Q : Flow → Shared → Prop} {vs : List Int} {n : Nat} {Dv D2 : Addr} {vv dv : List Value} {ds : List Int} {o4 o5 : Obj} {v5 : Option Value} {tS tZ : Tok} {size : Int} (hu : A.units + 64 < cLine) (hh : A.handled = none) (hg : AllBare s.gens)
    (F : Fr h₀ L s.heap m) (N : News h₀ L s.heap ((L + 1 + 1 + 1 + 1 + 1, o5) :: (L + 1 + 1 + 1 + 1, o4) :: (D2, lst dv) :: (Dv, lst vv) :: news)) (G : Gd w mean mg mb h₀)
    (off5 : ∀ p ∈ ((L + 1 + 1 + 1 + 1, o4) :: (D2, lst dv) :: (Dv, lst vv) :: news : List (Addr × Obj)), p.1 ≠ L + 1 + 1 + 1 + 1 + 1)
    (ho4 : o4.data = .cell (some (.ref Dv))) (ho5 : o5.data = .cell v5) (hvv : IntsAre vv vs) (hdv : IntsAre dv ds) (hvl : vs.length = 3) (hvb : ∀ a ∈ vs, 0 ≤ a ∧ a < 1000) (hn : n < 100) (hdealt : ds = servedF vs n)
    (hm2 : m "seats" = some (.int ((n : Nat) : Int) tS)) (hm3 : m "size" = some (.int size tZ)) (hm4 : m "dealt" = some (.ref D2))
    (kont : ∀ h' tk' G' m', AllBare G' → Fr h₀ L h' m' → News h₀ L h' ((L + 1 + 1 + 1 + 1, o4) :: (D2, lst dv) :: (Dv, lst vv) :: news) → m' "size" = some (.int size tZ) → m' "seats" = some (.int ((n : Nat) : Int) tS) →
      wpAny (model PW w) A (execs (lwB.drop 13) (lwE L fa cd)) Q E { s with heap := h', toks := tk', gens := G' }) :
    wpAny (model PW w) A (execs (lwB.drop 10) (lwE L fa cd)) Q E s := by
  refine wpAny_execs_cons ?_
  refine wpAny_Assign_Name (hs := ?hs0) ?_
  case hs0 => rfl
  refine List_ ?_
  refine ci_splice (ns := [0, 0, 0]) ?hi3 ?_
  case hi3 => repeat (first | exact .nil | refine .cons _ _ _ ?_)
  intro us tk1 hu1
  refine newList_I hu1 F N (by simp) ?_
  intro Ds h1 sv hsv F1 N1 l1
  have d5 : L + 1 + 1 + 1 + 1 + 1 ≠ Ds := Nat.ne_of_lt (l1 _ List.mem_cons_self)
  have offs : ∀ p ∈ ((L + 1 + 1 + 1 + 1, o4) :: (D2, lst dv) :: (Dv, lst vv) :: news : List (Addr × Obj)), p.1 ≠ Ds := fun p hp => Nat.ne_of_lt (l1 p (List.mem_cons_of_mem _ hp))
  have N1' := News.swap N1
  refine storeX_C F1 N1' rfl (UpdF.head ?_) ho5 ?_
  · intro p hp
    rcases List.mem_cons.mp hp with h | h
    · rw [h]; exact Ne.symm d5
    · exact off5 p h
  intro h2 o5' F2 N2 ho5'
  dsimp only
  refine wpAny_execs_cons ?_
  refine wpAny_For ?_
  refine Call_ (nameX_B F2 G.K (topRead_of G.T) (nm_range w) bb_range (by decide) ?_)
  refine PyProof.Rows.callWith_type1 (spliced_more (nameX_L F2 hm2 (spliced_none ?_)))
  refine range1_rows F2 N2 fun h3 tk3 t3 u3 v3 hr F3 N3 k3 => ?_
  refine for_range (n := n) (J := fun i m nw G => AllBare G ∧ ∃ sv, nw = (L + 1 + 1 + 1 + 1 + 1, o5') :: (Ds, listOf (List.toArray sv) 0) :: (L + 1 + 1 + 1 + 1, o4) :: (D2, lst dv) :: (Dv, lst vv) :: news ∧ IntsAre sv (servedF vs i) ∧ m "size" = some (.int size tZ) ∧ m "dealt" = some (.ref D2) ∧ m "seats" = some (.int ((n : Nat) : Int) tS))
    hh rfl rfl rfl F3 N3 hr (by omega) ⟨hg, sv, rfl, by rw [servedF_zero]; exact hsv, hm3, hm4, hm2⟩ ?_ ?_
  · rintro i m₁ nw G1 h tk I t' hin ⟨hG1, sv, rfl, hsv, e1, e2, e3⟩ F4 N4 off4 E'
    obtain ⟨hl3, hpos⟩ := servedF_ok vs i
    refine wpAny_execs_cons ?_
    refine Assign_Tuple ?_
    refine Call_ (nameX_B F4 G.K (topRead_of G.T) (nm_max w) bb_max (by decide) ?_)
    refine PyProof.Rows.callWith_builtin1 (spliced_more ?_)
    refine comp_eval (cl := [("votes", L + 1 + 1 + 1 + 1), ("served", L + 1 + 1 + 1 + 1 + 1)]) rfl rfl (by decide) ?_
    refine Call_ (nameX_B F4 G.K (topRead_of G.T) (nm_range w) bb_range (by decide) ?_)
    refine PyProof.Rows.callWith_type1 (spliced_more (wpAny_Constant_int (spliced_none ?_)))
    refine range1_rows F4 N4 fun h5 tk5 t5 u5 v5 hr5 F5 N5 k5 => ?_
    generalize hled : (I, rI ((i : Int) + 1) ((n : Int) - (i : Int) - 1)) :: (L + 1 + 1 + 1 + 1 + 1, o5') :: (Ds, listOf (List.toArray sv) 0) :: (L + 1 + 1 + 1 + 1, o4) :: (D2, lst dv) :: (Dv, lst vv) :: news = led at N5
    have m5 : ((L + 1 + 1 + 1 + 1 + 1 : Nat), o5') ∈ led := by rw [← hled]; simp
    have ms : (Ds, listOf (List.toArray sv) 0) ∈ led := by rw [← hled]; simp
    have m4 : ((L + 1 + 1 + 1 + 1 : Nat), o4) ∈ led := by rw [← hled]; simp
    have mv : (Dv, lst vv) ∈ led := by rw [← hled]; simp
    refine comp_range (n := 3) (V := Prs vs (servedF vs i)) hh rfl (by decide) rfl F5 N5 hr5 (by decide) ⟨rfl, fun j hj => absurd hj (Nat.not_lt_zero _)⟩ (fun i ys new h => h.1) ?el ?hq
    case el =>
      intro k ys new h tk C oC mC own t' hk hV F6 N6 hoC hm E''
      have hin6 : ∀ p, p ∈ led → p ∈ (C, oC) :: (own ++ (new ++ led)) := fun p hp => List.mem_cons_of_mem _ (List.mem_append_right _ (List.mem_append_right _ hp))
      have hvk : 0 ≤ vs[k]! ∧ vs[k]! < 1000 := hvb _ (List.mem_of_getElem? (get_bang (by omega)))
      have hsk := hpos _ (List.mem_of_getElem? (get_bang (l := servedF vs i) (i := k) (by omega)))
      refine Tuple_ ?_
      refine spliced_more ?_
      refine wpAny_BinOp ?_
      refine wpAny_BinOp ?_
      refine wpAny_Constant_int ?_
      refine Subscript_ ?_
      refine lcf_cell N6 rfl (hin6 _ m4) ho4 ?_ rfl rfl
      refine ldC rfl rfl N6 hoC hm ?_
      refine item_N (ns := vs) (k := k) (a := vs[k]!) N6 (hin6 _ mv) (LO.lst vv) hvv (by omega) (get_bang (by omega)) ?_
      intro ta
      refine mul_int ?_ (mulOk hvk.1 (by omega))
      refine wpAny_BinOp ?_
      refine Subscript_ ?_
      refine lcf_cell N6 rfl (hin6 _ m5) ho5' ?_ rfl rfl
      refine ldC rfl rfl N6 hoC hm ?_
      refine item_N (ns := servedF vs i) (k := k) (a := (servedF vs i)[k]!) N6 (hin6 _ ms) ⟨rfl, _, rfl⟩ hsv (by omega) (get_bang (by omega)) ?_
      intro tb
      refine wpAny_Constant_int ?_
      refine PyProof.Rows.add_int ?_
      refine floordiv_int (by omega) ?_ (.inl (PyProof.noPylong_small (by omega)))
      rw [← quo_eq]
      refine spliced_more ?_
      refine UnaryOp_ ?_
      refine ldC rfl rfl N6 hoC hm ?_
      refine neg_int ?_
      refine spliced_none ?_
      refine newTuple_N F6 N6 ?_
      intro h7 F7 N7
      refine ⟨h7, _, _, _, rfl, F7, N7, (fun p hp => Nat.ne_of_lt (Heap.lt_size (N6 p hp).1)), ?_⟩
      exact prs_snoc hV
    intro C oC mC D h6 tk6 ys new hV F6 N6 hoC off6 hCD
    refine end_plain F6 N6 hoC off6 hCD ?_
    intro h7 F7 N7
    refine spliced_none ?_
    refine max_callN (oA := lst ys) (vs := ys) (fun a b => gtP (quo vs (servedF vs i) a) (-(a : Int)) (quo vs (servedF vs i) b) (-(b : Int))) hh F7 N7 List.mem_cons_self (LO.lst ys) (by rw [hV.1]; decide) ?cmp ?hmx
    case cmp =>
      intro a b va vb ha hb hab h tk Q1 E1 N hQ1
      have ha3 : a < 3 := by
        have := (List.getElem?_eq_some_iff.mp ha).1
        rw [hV.1] at this
        exact this
      obtain ⟨Ta, ta1, ta2, pa1, pa2⟩ := hV.2 a ha3
      obtain ⟨Tb, tb1, tb2, pb1, pb2⟩ := hV.2 b (Nat.lt_trans hab ha3)
      rw [pa1] at ha
      rw [pb1] at hb
      cases ha
      cases hb
      refine gtT (N _ (List.mem_cons_of_mem _ (List.mem_append_left _ pa2))).1 (N _ (List.mem_cons_of_mem _ (List.mem_append_left _ pb2))).1 (by omega) (by show A.units + 1 < cLine; omega) hQ1
    intro v h8 tk8 hv F8 N8
    have hb3 := bestK_lt vs (servedF vs i)
    obtain ⟨T, t1, t2, p1, p2⟩ := hV.2 (bestK vs (servedF vs i)) hb3
    have hvT : v = .ref T := by
      have e3 : ys[bestK vs (servedF vs i)]? = some v := by
        rw [hV.1] at hv
        exact hv
      rw [p1] at e3
      exact (Option.some.inj e3).symm
    subst hvT
    refine kcp_assign (env := lwE L fa cd) hh (x := .int (quo vs (servedF vs i) (bestK vs (servedF vs i))) t1) (y := .int (-((bestK vs (servedF vs i) : Nat) : Int)) t2) ⟨_, (N8 _ (List.mem_cons_of_mem _ (List.mem_append_left _ p2))).1, rfl, _, rfl⟩ rfl rfl rfl F8.ns ?_
    intro h9 tk9 hn9 hk9
    have F9 : Fr h₀ L h9 _ := ⟨hn9, fun b o e => hk9 b o (by
      rintro rfl
      have := kts_self F8
      rw [this] at e; cases e) (F8.keep b o e), F8.above⟩
    have N9 : News h₀ L h9 led := fun p hp => by
      have z := N8 p (List.mem_cons_of_mem _ (List.mem_append_right _ hp))
      exact ⟨hk9 _ _ z.2.1 z.1, z.2⟩
    dsimp only
    refine wpAny_execs_cons ?_
    refine wpAny_AugAssign_Subscript_any ?_
    refine nameX_C N9 rfl m5 ho5' ?_
    refine UnaryOp_ ?_
    refine nameX_L F9 rfl ?_
    refine neg_int ?_
    rw [Int.neg_neg]
    refine getItem_N (ns := servedF vs i) (k := bestK vs (servedF vs i)) (a := (servedF vs i)[bestK vs (servedF vs i)]!) N9 ms ⟨rfl, _, rfl⟩ hsv (by omega) (get_bang (by omega)) ?_
    intro tc
    refine wpAny_Constant_int ?_
    refine iadd_int ?_
    rw [← hled] at N9
    have hIs : I ≠ Ds := Ne.symm (off4 (Ds, listOf (List.toArray sv) 0) (by simp))
    refine setItem_C (own := [(I, rI ((i : Int) + 1) ((n : Int) - (i : Int) - 1)), (L + 1 + 1 + 1 + 1 + 1, o5')]) F9 N9 ?_ offs (by rw [ia_len hsv]; omega) (by omega) ?_
    · intro p hp
      simp only [List.mem_cons, List.not_mem_nil, or_false] at hp
      rcases hp with h | h
      · rw [h]; exact hIs
      · rw [h]; exact d5
    intro h10 F10 N10
    dsimp only
    refine wpAny_execs_nil ?_
    refine ⟨h10, _, _, _, _, rfl, F10, N10, ?_, hG1, sv.set (bestK vs (servedF vs i)) (.int ((servedF vs i)[bestK vs (servedF vs i)]! + 1) _), rfl, ?_, e1, e2, e3⟩
    · intro p hp
      rcases List.mem_cons.mp hp with h | h
      · rw [h]; exact off4 (L + 1 + 1 + 1 + 1 + 1, o5') (by simp)
      · rcases List.mem_cons.mp h with h | h
        · rw [h]; exact Ne.symm hIs
        · exact off4 p (by simp only [List.mem_cons] at h ⊢; rcases h with h | h | h | h <;> simp [h])
    · rw [servedF_succ]
      exact ia_set hsv _ _ _
  · rintro h tk G1 m₁ nw ⟨hG1, sv, rfl, hsv, e1, e2, e3⟩ F4 N4
    dsimp only
    refine wpAny_execs_cons ?_
    refine wpAny_If ?_
    refine wpAny_isTrue_Compare1 ?_
    refine nameX_L F4 e2 ?_
    refine nameX_C N4 rfl List.mem_cons_self ho5' ?_
    refine ne_intsK (ns := ds) (ms := servedF vs n) ⟨_, (N4 (D2, lst dv) (by simp)).1, rfl, _, rfl⟩ hdv ⟨_, (N4 (Ds, listOf (List.toArray sv) 0) (by simp)).1, rfl, _, rfl⟩ hsv hu ?_
    refine wpAny_truthy_bool ?_
    rw [hdealt, decide_eq_true rfl, if_neg (by decide)]
    refine wpAny_execs_nil ?_
    dsimp only
    refine kont h tk G1 m₁ hG1 F4 (News.sub N4 ?_) e1 e3
    intro p hp
    exact List.mem_cons_of_mem _ (List.mem_cons_of_mem _ hp)
end
end Mine
end

/-! part M32 -/
section
open PySem PySem.W PyProof.Rows PySem.Calls PyProof.Rows.LCg
namespace Mine
noncomputable def ratP (p : Int × Int) : List Int := if p.2 > 0 then [(60 * p.1).fdiv p.2] else []
/-- what each party with seats pays a seat -/
noncomputable def rat (vs gs : List Int) : List Int := (vs.zip gs).flatMap ratP
noncomputable def givenF (n one two : Nat) : List Int := [(one : Int), (two : Int), (n : Int) - (one : Int) - (two : Int)]
noncomputable def rowR (vs : List Int) (n one : Nat) : Nat → List Int
  | 0 => []
  | k + 1 => rowR vs n one k ++ [minI (rat vs (givenF n one k))]
@[irreducible] noncomputable def rowF (vs : List Int) (n one k : Nat) : List Int := rowR vs n one k
noncomputable def worstR (vs : List Int) (n : Nat) : Nat → List Int
  | 0 => []
  | i + 1 => worstR vs n i ++ rowF vs n i (n + 1 - i)
@[irreducible] noncomputable def worstF (vs : List Int) (n i : Nat) : List Int := worstR vs n i
theorem rowF_zero (vs : List Int) (n one : Nat) : rowF vs n one 0 = [] := by unfold rowF; rfl
theorem rowF_succ (vs : List Int) (n one k : Nat) : rowF vs n one (k + 1) = rowF vs n one k ++ [minI (rat vs (givenF n one k))] := by unfold rowF; rfl
theorem worstF_zero (vs : List Int) (n : Nat) : worstF vs n 0 = [] := by unfold worstF; rfl
theorem worstF_succ (vs : List Int) (n i : Nat) : worstF vs n (i + 1) = worstF vs n i ++ rowF vs n i (n + 1 - i) := by unfold worstF; rfl
theorem rowF_len (vs : List Int) (n one : Nat) : ∀ k, (rowF vs n one k).length = k
  | 0 => by rw [rowF_zero]; rfl
  | k + 1 => by rw [rowF_succ, List.length_append, rowF_len vs n one k]; rfl
theorem worstF_len (vs : List Int) (n : Nat) : ∀ i, (worstF vs n i).length ≤ i * (n + 1)
  | 0 => by rw [worstF_zero]; exact Nat.zero_le _
  | i + 1 => by
    rw [worstF_succ, List.length_append, rowF_len, Nat.succ_mul]
    have := worstF_len vs n i
    omega
theorem ratP_len (p : Int × Int) : (ratP p).length ≤ 1 := by
  unfold ratP
  split <;> simp
theorem fm_len : ∀ l : List (Int × Int), (l.flatMap ratP).length ≤ l.length
  | [] => by simp
  | p :: r => by
    have := ratP_len p
    have := fm_len r
    rw [List.flatMap_cons, List.length_append, List.length_cons]
    omega
section
variable {w : World} {A A₀ : Around} {E : Value → Shared → Prop} {s : Shared} {h₀ base : Heap} {L : Addr} {m : Str → Option Value} {news : List (Addr × Obj)} {mean : ExcName → Option Value} {mg mb : Str → Option Value}
  {fa : Addr} {cd : Value}
set_option maxHeartbeats 1600000 in
theorem lawG {Q : Flow → Shared → Prop} {vs : List Int} {n : Nat} {Dv : Addr} {vv : List Value} {o4 : Obj} {tS tZ : Tok} {size : Int} (hh : A.handled = none) (hg : AllBare s.gens)
    (F : Fr h₀ L s.heap m) (N : News h₀ L s.heap news) (G : Gd w mean mg mb h₀)
    (k4 : (L + 1 + 1 + 1 + 1, o4) ∈ news) (kv : (Dv, lst vv) ∈ news)
    (ho4 : o4.data = .cell (some (.ref Dv))) (hvv : IntsAre vv vs) (hvl : vs.length = 3) (hvb : ∀ a ∈ vs, 0 ≤ a ∧ a < 1000) (hn : n < 20)
    (hne : ∀ one two, one ≤ n → one + two ≤ n → rat vs (givenF n one two) ≠ []) (hw0 : worstF vs n (n + 1) ≠ []) (hmax : maxI (worstF vs n (n + 1)) = size)
    (hm2 : m "seats" = some (.int ((n : Nat) : Int) tS)) (hm3 : m "size" = some (.int size tZ))
    (kont : ∀ h' tk' m', Fr h₀ L h' m' → Q (.ret (.bool true)) { s with heap := h', toks := tk' }) :
    wpAny (model PW w) A (execs (lwB.drop 13) (lwE L fa cd)) Q E s := by
  refine wpAny_execs_cons ?_
  refine wpAny_Assign_Name (hs := ?hs0) ?_
  case hs0 => rfl
  refine List_ (spliced_none ?_)
  refine newList_I .nil F N (by simp) ?_
  intro Dw h1 wv0 hw0' F1 N1 l1
  cases hw0'
  refine storeX_L F1 N1 ?_
  intro h2 F2 N2
  have offD : ∀ p ∈ news, p.1 ≠ Dw := fun p hp => Nat.ne_of_lt (l1 p hp)
  dsimp only
  refine wpAny_execs_cons ?_
  refine wpAny_For ?_
  refine Call_ (nameX_B F2 G.K (topRead_of G.T) (nm_range w) bb_range (by decide) ?_)
  refine PyProof.Rows.callWith_type1 (spliced_more ?_)
  refine wpAny_BinOp ?_
  refine nameX_L F2 hm2 ?_
  refine wpAny_Constant_int ?_
  refine PyProof.Rows.add_int ?_
  refine spliced_none ?_
  rw [show ((n : Nat) : Int) + 1 = ((n + 1 : Nat) : Int) from rfl]
  refine range1_rows F2 N2 fun h3 tk3 t3 u3 v3 hr F3 N3 k3 => ?_
  refine for_range (n := n + 1) (J := fun i m nw G => G = s.gens ∧ ∃ wv, nw = (Dw, lst wv) :: news ∧ IntsAre wv (worstF vs n i) ∧ m "worst" = some (.ref Dw) ∧ m "size" = some (.int size tZ) ∧ m "seats" = some (.int ((n : Nat) : Int) tS))
    hh rfl rfl rfl F3 N3 hr (by omega) ⟨rfl, [], rfl, by rw [worstF_zero]; exact .nil, rfl, hm3, hm2⟩ ?_ ?_
  · rintro i m₁ nw G1 h tk I t' hin ⟨rfl, wv, rfl, hwv, e1, e2, e3⟩ F4 N4 off4 E'
    have hwl := worstF_len vs n i
    have hwb : i * (n + 1) ≤ 20 * 20 := Nat.mul_le_mul (by omega) (by omega)
    refine wpAny_execs_cons ?_
    refine wpAny_For ?_
    refine Call_ (nameX_B F4 G.K (topRead_of G.T) (nm_range w) bb_range (by decide) ?_)
    refine PyProof.Rows.callWith_type1 (spliced_more ?_)
    refine wpAny_BinOp ?_
    refine wpAny_BinOp ?_
    refine nameX_L F4 e3 ?_
    refine wpAny_Constant_int ?_
    refine PyProof.Rows.add_int ?_
    refine nameX_L F4 rfl ?_
    refine PyProof.Rows.sub_int ?_
    refine spliced_none ?_
    rw [show ((n : Nat) : Int) + 1 - (i : Int) = ((n + 1 - i : Nat) : Int) by omega]
    refine range1_rows F4 N4 fun h5 tk5 t5 u5 v5 hr5 F5 N5 k5 => ?_
    have hIw : I ≠ Dw := Ne.symm (off4 (Dw, lst wv) List.mem_cons_self)
    refine for_range (n := n + 1 - i) (J := fun k m nw G => G = s.gens ∧ ∃ wv, nw = (I, rI ((i : Int) + 1) (((n + 1 : Nat) : Int) - (i : Int) - 1)) :: (Dw, lst wv) :: news ∧ IntsAre wv (worstF vs n i ++ rowF vs n i k) ∧ m "worst" = some (.ref Dw) ∧ m "size" = some (.int size tZ) ∧ m "seats" = some (.int ((n : Nat) : Int) tS) ∧ m "one" = some (.int (i : Int) t'))
      hh rfl rfl rfl F5 N5 hr5 (by omega) ⟨rfl, wv, rfl, by rw [rowF_zero, List.append_nil]; exact hwv, e1, e2, e3, rfl⟩ ?_ ?_
    · rintro k m₂ nw G1 h tk I2 t2 hik ⟨rfl, wv2, rfl, hwv2, e1, e2, e3, e4⟩ F6 N6 off6 E''
      have hw2l : wv2.length ≤ 500 := by
        rw [ia_len hwv2, List.length_append, rowF_len]
        omega
      refine wpAny_execs_cons ?_
      refine wpAny_Assign_Name (hs := ?hs1) ?_
      case hs1 => rfl
      refine List_ ?_
      refine spliced_more ?_
      refine nameX_L F6 e4 ?_
      refine spliced_more ?_
      refine nameX_L F6 rfl ?_
      refine spliced_more ?_
      refine wpAny_BinOp ?_
      refine wpAny_BinOp ?_
      refine nameX_L F6 e3 ?_
      refine nameX_L F6 e4 ?_
      refine PyProof.Rows.sub_int ?_
      refine nameX_L F6 rfl ?_
      refine PyProof.Rows.sub_int ?_
      refine spliced_none ?_
      refine newList_I (ns := givenF n i k) (.cons _ _ (.cons _ _ (.cons _ _ .nil))) F6 N6 (by simp [givenF]) ?_
      intro Dg h7 gv hgv F7 N7 l7
      refine storeX_L F7 N7 ?_
      intro h8 F8 N8
      have hwg : Dw ≠ Dg := Nat.ne_of_lt (l7 (Dw, lst wv2) (by simp))
      dsimp only
      refine wpAny_execs_cons ?_
      refine wpAny_Expr_any ?_
      generalize hled : (Dg, listOf (List.toArray gv) 0) :: (I2, rI ((k : Int) + 1) (((n + 1 - i : Nat) : Int) - (k : Int) - 1)) :: (I, rI ((i : Int) + 1) (((n + 1 : Nat) : Int) - (i : Int) - 1)) :: (Dw, lst wv2) :: news = led at N8
      have mw : (Dw, lst wv2) ∈ led := by rw [← hled]; simp
      have mg' : (Dg, listOf (List.toArray gv) 0) ∈ led := by rw [← hled]; simp
      have mn : ∀ p ∈ news, p ∈ led := fun p hp => by rw [← hled]; simp [hp]
      refine MethodCall_ (nameX_L F8 e1 (kl_method (its := wv2.toArray) (n := wv2.length) N8 mw PySem.F.slot_list_append PySem.F.type_list_append ?_))
      refine PyProof.Rows.callWith_method1 (spliced_more ?_)
      refine Call_ (nameX_B F8 G.K (topRead_of G.T) (nm_min w) bb_min (by decide) ?_)
      refine PyProof.Rows.callWith_builtin1 (spliced_more ?_)
      refine comp_eval (cl := []) rfl rfl (by decide) ?_
      refine Call_ (nameX_B F8 G.K (topRead_of G.T) (nm_zip w) bb_zip (by decide) ?_)
      refine PyProof.Rows.callWith_type1 (spliced_more ?_)
      refine nameX_C N8 rfl (mn _ k4) ho4 ?_
      refine spliced_more (nameX_L F8 rfl (spliced_none ?_))
      refine comp_zip (o1 := lst vv) (vs1 := vv) (o2 := listOf (List.toArray gv) 0) (vs2 := gv) (V := fun j ys => IntsAre ys (((vs.zip (givenF n i k)).take j).flatMap ratP)) hh rfl (by decide) rfl rfl F8 N8 (mn _ kv) (LO.lst vv) mg' ⟨rfl, _, rfl⟩ (by rw [ia_len hvv, ia_len hgv, hvl]; rfl) ?sz .nil ?vl ?el ?hq
      case sz =>
        rw [ia_len hvv, hvl]
        exact Nat.le_of_ble_eq_true rfl
      case vl =>
        intro j ys h
        rw [ia_len h]
        refine Nat.le_trans (fm_len _) ?_
        rw [List.length_take]
        omega
      case el =>
        intro j ys h tk C oC mC own v1 v2 hv1 hv2 hV F9 N9 hoC hmb hma E3
        obtain ⟨a1, u1, ha1, rfl⟩ := ia_get hvv hv1
        obtain ⟨a2, u2, ha2, rfl⟩ := ia_get hgv hv2
        have hz : (vs.zip (givenF n i k))[j]? = some (a1, a2) := by
          rw [List.getElem?_zip_eq_some]
          exact ⟨ha1, ha2⟩
        have hsn : ((vs.zip (givenF n i k)).take (j + 1)).flatMap ratP = ((vs.zip (givenF n i k)).take j).flatMap ratP ++ ratP (a1, a2) := by
          rw [take_snoc hz, List.flatMap_append]
          simp
        have hb1 := hvb a1 (List.mem_of_getElem? ha1)
        have hb2 : a2 ≤ 20 := by
          have := List.mem_of_getElem? ha2
          unfold givenF at this
          simp only [List.mem_cons, List.not_mem_nil, or_false] at this
          omega
        refine wpAny_tests_one ?_
        refine wpAny_isTrue_Compare1 ?_
        refine ldC rfl rfl N9 hoC hmb ?_
        refine wpAny_Constant_int ?_
        refine PyProof.Rows.gt_int ?_
        refine wpAny_truthy_bool ?_
        by_cases hp : 0 < a2
        · rw [decide_eq_true hp, if_pos rfl]
          refine wpAny_BinOp ?_
          refine wpAny_BinOp ?_
          refine wpAny_Constant_int ?_
          refine ldC rfl rfl N9 hoC (hma (by decide)) ?_
          refine mul_int ?_ (mulOk hb1.1 (by omega))
          refine ldC rfl rfl N9 hoC hmb ?_
          refine floordiv_int (by omega) ?_ (.inl (PyProof.noPylong_small (by omega)))
          refine ⟨h, _, rfl, F9, N9, ?_⟩
          rw [hsn, ratP, if_pos hp]
          exact ia_snoc hV _ _
        · rw [decide_eq_false hp, if_neg Bool.false_ne_true]
          refine ⟨h, _, rfl, F9, N9, ?_⟩
          rw [hsn, ratP, if_neg hp, List.append_nil]
          exact hV
      intro C oC mC D h9 tk9 ys hys F9 N9 hoC off9 hCD
      refine end_plain F9 N9 hoC off9 hCD ?_
      intro h10 F10 N10
      refine spliced_none ?_
      have hys' : IntsAre ys (rat vs (givenF n i k)) := by
        have e : (vs.zip (givenF n i k)).take vv.length = vs.zip (givenF n i k) := List.take_of_length_le (by rw [List.length_zip, ia_len hvv]; omega)
        rw [e] at hys
        exact hys
      refine min_N (ns := rat vs (givenF n i k)) hh F10 N10 List.mem_cons_self (LO.lst ys) hys' (List.length_pos_iff.mpr (hne i k (by omega) (by omega))) ?_
      intro h11 t11 tk11 F11 N11
      refine spliced_none ?_
      have zw := N11 (Dw, lst wv2) (List.mem_cons_of_mem _ mw)
      refine append_at (hsz := ?sz2) zw.1 ?_
      case sz2 =>
        show wv2.toArray.size ≤ sizeLine
        rw [List.size_toArray]
        exact Nat.le_trans hw2l (Nat.le_of_ble_eq_true rfl)
      intro h12 hs12 hD12
      have F12 := F11.change hs12 zw.2.1 zw.2.2
      dsimp only
      refine wpAny_execs_nil ?_
      have hI2w : I2 ≠ Dw := Ne.symm (off6 (Dw, lst wv2) (by simp))
      have hII2 : I ≠ I2 := off6 (I, rI ((i : Int) + 1) (((n + 1 : Nat) : Int) - (i : Int) - 1)) (by simp)
      have N12 : News h₀ L h12 ((I2, rI ((k : Int) + 1) (((n + 1 - i : Nat) : Int) - (k : Int) - 1)) :: (I, rI ((i : Int) + 1) (((n + 1 : Nat) : Int) - (i : Int) - 1)) :: (Dw, lst (wv2 ++ [.int (minI (rat vs (givenF n i k))) t11])) :: news) := by
        have old : ∀ p, p ∈ led → p.1 ≠ Dw → h12.get? p.1 = some p.2 ∧ p.1 ≠ L ∧ h₀.get? p.1 = none := fun p hp hd => by
          have z := N11 p (List.mem_cons_of_mem _ hp)
          exact ⟨hs12.extBut _ _ hd z.1, z.2⟩
        intro p hp
        simp only [List.mem_cons] at hp
        rcases hp with h | h | h | h
        · rw [h]; exact old _ (by rw [← hled]; simp) hI2w
        · rw [h]; exact old _ (by rw [← hled]; simp) hIw
        · rw [h]; exact ⟨hD12.trans (congrArg some (lst_snoc wv2 _)), zw.2⟩
        · exact old p (mn p h) (offD p h)
      refine ⟨h12, _, _, _, _, rfl, F12, N12, ?_, rfl, wv2 ++ [.int (minI (rat vs (givenF n i k))) t11], rfl, ?_, e1, e2, e3, e4⟩
      · intro p hp
        rcases List.mem_cons.mp hp with h | h
        · rw [h]; exact hII2
        · rcases List.mem_cons.mp h with h | h
          · rw [h]; exact Ne.symm hI2w
          · exact off6 p (List.mem_cons_of_mem _ (List.mem_cons_of_mem _ h))
      · rw [rowF_succ, ← List.append_assoc]
        exact ia_snoc hwv2 _ _
    · rintro h tk G1 m₂ nw ⟨rfl, wv2, rfl, hwv2, e1, e2, e3, e4⟩ F6 N6
      dsimp only
      refine wpAny_execs_nil ?_
      refine ⟨h, _, _, _, _, rfl, F6, N6, fun p hp => ?_, rfl, wv2, rfl, by rw [worstF_succ]; exact hwv2, e1, e2, e3⟩
      rcases List.mem_cons.mp hp with h | h
      · rw [h]; exact Ne.symm hIw
      · exact off4 p (List.mem_cons_of_mem _ h)
  · rintro h tk G1 m₁ nw ⟨rfl, wv, rfl, hwv, e1, e2, e3⟩ F4 N4
    dsimp only
    refine wpAny_execs_cons ?_
    refine wpAny_Return_some ?_
    refine wpAny_Compare1 ?_
    refine Call_ (nameX_B F4 G.K (topRead_of G.T) (nm_max w) bb_max (by decide) ?_)
    refine PyProof.Rows.callWith_builtin1 (spliced_more (nameX_L F4 e1 (spliced_none ?_)))
    refine max_N (ns := worstF vs n (n + 1)) hh F4 N4 List.mem_cons_self (LO.lst wv) hwv (List.length_pos_iff.mpr hw0) ?_
    intro h5 t5 tk5 F5 N5
    refine nameX_L F5 e2 ?_
    refine PyProof.Rows.eq_int ?_
    rw [hmax, beq_self_eq_true]
    exact kont h5 _ _ F5
end
end Mine
end

/-! part M33 -/
section
open PySem PySem.W PyProof.Rows PySem.Calls PyProof.Rows.LCg
namespace Mine
/-- the octets behind the first, read -/
noncomputable def chk : List Int → Int → Int → Int → Bool
  | [], val, b, v => Builtin.bitAnd b 64 == 0 && val == v
  | c :: r, val, b, v => Builtin.bitAnd b 64 != 0 && chk r (Builtin.bitOr (val * 64) (Builtin.bitAnd c 63)) c v
theorem parV_cons {c val b : Int} {r : List Int} (h : Builtin.bitAnd b 64 ≠ 0) : parV (c :: r) val b = (parV r (Builtin.bitOr (val * 64) (Builtin.bitAnd c 63)) c).map fun p => (p.1, p.2 + 1) := by
  unfold parV
  conv => lhs; rw [parVR, if_neg h]
theorem chk_ok : ∀ (r : List Int) (val b v : Int), chk r val b v = true → ∀ rest, parV (r ++ rest) val b = some (v, r.length)
  | [], val, b, v, h, rest => by
    simp only [chk, Bool.and_eq_true, beq_iff_eq] at h
    rw [parV_stop h.1, h.2]
    rfl
  | c :: r, val, b, v, h, rest => by
    simp only [chk, Bool.and_eq_true, bne_iff_ne, ne_eq] at h
    rw [List.cons_append, parV_cons h.1, chk_ok r _ _ _ h.2 rest]
    rfl
noncomputable def okCode (c : Nat) : Bool := match octF c with
  | b :: r => chk r (Builtin.bitAnd b 63) b c && decide (r.length ≤ 3)
  | [] => false
theorem okCodes : (codesN ++ [70, 105, 76]).all okCode = true := by decide +kernel
theorem bigCodes : (codesN ++ [70, 105, 76]).all (fun c => (octF c).all fun a => decide (0 ≤ a) && decide (a < 128)) = true := by decide +kernel
theorem lowCodes : (codesN ++ [70, 105, 76]).all (fun c => decide (c < 0x110000)) = true := by decide +kernel
theorem inSigns : (codesN ++ [70, 105, 76]).all (fun c => (signsL.map fun p : Nat × Str => p.1).contains c) = true := by decide +kernel
theorem signs_short : signsL.all (fun p => decide (p.2.cps.size ≤ 9)) = true := by decide +kernel
theorem pairSigns : (codesN.zip foldedL).all (fun p => signsL.contains p) = true := by decide +kernel
theorem moreSigns : ([(70, "f"), (105, "i"), (76, "l")] : List (Nat × Str)).all (fun p => signsL.contains p) = true := by decide +kernel
theorem code_sign {c : Nat} (h : c ∈ codesN ++ [70, 105, 76]) : fine c ∧ (b3F c).cps.size ≤ 9 := by
  have h1 := List.all_eq_true.mp inSigns c h
  rw [List.contains_iff_mem] at h1
  obtain ⟨p, hp, rfl⟩ := List.mem_map.mp h1
  obtain ⟨a, b⟩ := signs_fine p hp
  refine ⟨a, ?_⟩
  rw [b]
  simpa using List.all_eq_true.mp signs_short p hp
theorem tape_octs : ∀ cs : List Nat, (∀ c ∈ cs, c ∈ codesN ++ [70, 105, 76]) → Tape (octs cs) cs
  | [], _ => .nil
  | c :: cs, h => by
    have hc := h c List.mem_cons_self
    have ih := tape_octs cs fun x hx => h x (List.mem_cons_of_mem _ hx)
    have e : octs (c :: cs) = octF c ++ octs cs := by simp [octs]
    have hk := List.all_eq_true.mp okCodes c hc
    have hl := List.all_eq_true.mp lowCodes c hc
    rw [decide_eq_true_eq] at hl
    obtain ⟨hf, hz⟩ := code_sign hc
    rw [e]
    unfold okCode at hk
    cases ho : octF c with
    | nil => rw [ho] at hk; cases hk
    | cons b r =>
      rw [ho] at hk
      simp only [Bool.and_eq_true, decide_eq_true_eq] at hk
      rw [List.cons_append]
      refine .cons (chk_ok r _ _ _ hk.1 (octs cs)) hk.2 hf hl hz ?_
      rw [List.drop_left]
      exact ih
theorem octs_big (ns : List Int) : ∀ a ∈ octs (codesOf ns), 0 ≤ a ∧ a < 128 := by
  intro a ha
  obtain ⟨c, hc, hac⟩ := List.mem_flatMap.mp ha
  have := List.all_eq_true.mp bigCodes c (codesOf_mem hc)
  have := List.all_eq_true.mp this a hac
  simpa using this
theorem b3_fold (v : Int) : b3F (codeN v) = foldStr v := by
  have h1 := codeN_get v
  have h2 := foldStr_get v
  rw [codesL_eq, List.getElem?_map] at h1
  obtain ⟨c, hc, e⟩ := Option.map_eq_some_iff.mp h1
  have e' : c = codeN v := by omega
  subst e'
  have hz : (codesN.zip foldedL)[(v % 14).toNat]? = some (codeN v, foldStr v) := by
    rw [List.getElem?_zip_eq_some]
    exact ⟨hc, h2⟩
  have := List.all_eq_true.mp pairSigns _ (List.mem_of_getElem? hz)
  rw [List.contains_iff_mem] at this
  exact (signs_fine _ this).2
theorem cnt_swap (a b : List Nat) : cnt (a ++ b) = cnt (b ++ a) := by
  unfold cnt
  simp only [List.count_append, Nat.add_comm]
theorem cnt_same (ns : List Int) : cnt (flat (codesOf ns)) = cnt (textF ns) := by
  have h1 : flat (codesOf ns) = ((drawnF ns).flatMap fun v => (foldStr v).cps.toList) ++ [102, 105, 108] := by
    unfold codesOf flat
    rw [List.flatMap_append, List.flatMap_map]
    have h2 : (fun v => (b3F (codeN v)).cps.toList) = fun v => (foldStr v).cps.toList := by
      funext v
      rw [b3_fold]
    have h3 : ([70, 105, 76] : List Nat).flatMap (fun c => (b3F c).cps.toList) = [102, 105, 108] := by
      have q := moreSigns
      simp only [List.all_cons, List.all_nil, Bool.and_true, Bool.and_eq_true, List.contains_iff_mem] at q
      obtain ⟨q1, q2, q3⟩ := q
      have r1 := (signs_fine _ q1).2
      have r2 := (signs_fine _ q2).2
      have r3 := (signs_fine _ q3).2
      simp only at r1 r2 r3
      simp only [List.flatMap_cons, List.flatMap_nil, r1, r2, r3]
      rfl
    rw [h2, h3]
  rw [h1, cnt_swap]
  rfl
/-- how much a piece gives -/
noncomputable def pieceOk (x : Str) : Bool := decide (x.cps.toList.count 102 ≤ 2) && decide (x.cps.toList.count 105 + x.cps.toList.count 108 ≤ 1) && decide (1 ≤ x.cps.toList.count 102 + x.cps.toList.count 105 + x.cps.toList.count 108)
theorem pieces : foldedL.all pieceOk = true := by decide +kernel
theorem piece (v : Int) : (foldStr v).cps.toList.count 102 ≤ 2 ∧ (foldStr v).cps.toList.count 105 + (foldStr v).cps.toList.count 108 ≤ 1 ∧ 1 ≤ (foldStr v).cps.toList.count 102 + (foldStr v).cps.toList.count 105 + (foldStr v).cps.toList.count 108 := by
  have := List.all_eq_true.mp pieces _ (List.mem_of_getElem? (foldStr_get v))
  unfold pieceOk at this
  simp only [Bool.and_eq_true, decide_eq_true_eq] at this
  exact ⟨this.1.1, this.1.2, this.2⟩
theorem pieces_sum : ∀ l : List Int, (l.flatMap fun v => (foldStr v).cps.toList).count 102 ≤ 2 * l.length ∧ (l.flatMap fun v => (foldStr v).cps.toList).count 105 + (l.flatMap fun v => (foldStr v).cps.toList).count 108 ≤ l.length ∧
    l.length ≤ (l.flatMap fun v => (foldStr v).cps.toList).count 102 + (l.flatMap fun v => (foldStr v).cps.toList).count 105 + (l.flatMap fun v => (foldStr v).cps.toList).count 108
  | [] => by simp
  | v :: r => by
    have h1 := piece v
    have h2 := pieces_sum r
    simp only [List.flatMap_cons, List.count_append, List.length_cons]
    omega
/-- the votes that can be -/
noncomputable def Votes (f i l : Nat) : Prop := 1 ≤ f ∧ f ≤ 19 ∧ 1 ≤ i ∧ 1 ≤ l ∧ i + l ≤ 11 ∧ 12 ≤ f + i + l
theorem votes_of (ns : List Int) : ∃ f i l : Nat, Votes f i l ∧ cnt (textF ns) = [(f : Int), (i : Int), (l : Int)] := by
  refine ⟨(textF ns).count 102, (textF ns).count 105, (textF ns).count 108, ?_, rfl⟩
  have h := pieces_sum (drawnF ns)
  rw [drawnF_len] at h
  unfold textF Votes
  have c1 : ([102, 105, 108] : List Nat).count 102 = 1 := rfl
  have c2 : ([102, 105, 108] : List Nat).count 105 = 1 := rfl
  have c3 : ([102, 105, 108] : List Nat).count 108 = 1 := rfl
  simp only [List.count_append, c1, c2, c3]
  omega
end Mine
end

/-! part M34 -/
section
open PySem PySem.W PyProof.Rows PySem.Calls PyProof.Rows.LCg
namespace Mine
theorem rat_ne (vs : List Int) (hv : vs.length = 3) (n one two : Nat) (h1 : one ≤ n) (h2 : one + two ≤ n) (h3 : 1 ≤ n) : rat vs (givenF n one two) ≠ [] := by
  match vs, hv with
  | [a, b, c], _ =>
    unfold rat givenF ratP
    simp only [List.zip_cons_cons, List.zip_nil_right, List.flatMap_cons, List.flatMap_nil, List.append_nil]
    intro q
    have q1 := List.append_eq_nil_iff.mp q
    have q2 := List.append_eq_nil_iff.mp q1.2
    by_cases p1 : (one : Int) > 0
    · rw [if_pos p1] at q1; cases q1.1
    · by_cases p2 : (two : Int) > 0
      · rw [if_pos p2] at q2; cases q2.1
      · rw [if_pos (show (n : Int) - (one : Int) - (two : Int) > 0 by omega)] at q2; cases q2.2
theorem worst_ne (vs : List Int) (n : Nat) : worstF vs n (n + 1) ≠ [] := by
  rw [worstF_succ]
  intro q
  have := congrArg List.length (List.append_eq_nil_iff.mp q).2
  rw [rowF_len, List.length_nil] at this
  omega
/-- a seats at the price S, or S at a seats -/
theorem dual {h S a : Int} (hS : 0 < S) (ha : 0 < a) : a ≤ h / S ↔ S ≤ h / a := by
  rw [Int.le_ediv_iff_mul_le hS, Int.le_ediv_iff_mul_le ha, Int.mul_comm]
theorem anti {h S S' : Int} (h0 : 0 ≤ h) (hS : 0 < S) (hl : S ≤ S') : h / S' ≤ h / S := by
  by_cases ha : 0 < h / S'
  · exact (dual hS ha).mpr (Int.le_trans hl ((dual (by omega) ha).mp (Int.le_refl _)))
  · have := Int.ediv_nonneg h0 (Int.le_of_lt hS)
    omega
section
variable {h0 h1 h2 : Int}
theorem size_inv {n : Int} (p0 : 60 ≤ h0) (p1 : 60 ≤ h1) (p2 : 60 ≤ h2) (hn : 1 ≤ n) (hn6 : n ≤ 6) : ∀ j : Nat, ∃ s, dSize [h0, h1, h2] n j = s ∧ 1 ≤ s ∧ (∀ S', s < S' → h0 / S' + h1 / S' + h2 / S' < n) ∧
    (n ≤ h0 / s + h1 / s + h2 / s ∨ (j : Int) + 1 ≤ h0 / s + h1 / s + h2 / s) ∧ ∃ a, 1 ≤ a ∧ a ≤ 6 ∧ (s = h0 / a ∨ s = h1 / a ∨ s = h2 / a)
  | 0 => by
    refine ⟨_, dSize_zero _ _, ?_⟩
    obtain ⟨hm, hA⟩ := maxI_mem [h0, h1, h2] (by simp)
    generalize maxI [h0, h1, h2] = s at hm hA
    have a0 := hA h0 (by simp)
    have a1 := hA h1 (by simp)
    have a2 := hA h2 (by simp)
    have e : ∀ h, h ∈ [h0, h1, h2] → 60 ≤ h ∧ h ≤ s := by
      intro h hh
      simp only [List.mem_cons, List.not_mem_nil, or_false] at hh
      omega
    refine ⟨by omega, fun S' hS' => ?_, .inr ?_, 1, by omega, by omega, ?_⟩
    · rw [Int.ediv_eq_zero_of_lt (by omega) (by omega), Int.ediv_eq_zero_of_lt (by omega) (by omega), Int.ediv_eq_zero_of_lt (by omega) (by omega)]
      omega
    · have n0 := Int.ediv_nonneg (show 0 ≤ h0 by omega) (show 0 ≤ s by omega)
      have n1 := Int.ediv_nonneg (show 0 ≤ h1 by omega) (show 0 ≤ s by omega)
      have n2 := Int.ediv_nonneg (show 0 ≤ h2 by omega) (show 0 ≤ s by omega)
      have hs1 : s / s = 1 := Int.ediv_self (by omega)
      simp only [List.mem_cons, List.not_mem_nil, or_false] at hm
      rcases hm with h | h | h
      · rw [← h, hs1] at *; omega
      · rw [← h, hs1] at *; omega
      · rw [← h, hs1] at *; omega
    · rw [Int.ediv_one, Int.ediv_one, Int.ediv_one]
      simpa using hm
  | j + 1 => by
    obtain ⟨s, hs, s1, sm, st, a, a1, a6, sa⟩ := size_inv p0 p1 p2 hn hn6 j
    rw [dSize_succ, hs, dStep_eq _ _ _ [h0 / s, h1 / s, h2 / s] rfl]
    have n0 := Int.ediv_nonneg (show 0 ≤ h0 by omega) (show 0 ≤ s by omega)
    have n1 := Int.ediv_nonneg (show 0 ≤ h1 by omega) (show 0 ≤ s by omega)
    have n2 := Int.ediv_nonneg (show 0 ≤ h2 by omega) (show 0 ≤ s by omega)
    have hsum : ([h0 / s, h1 / s, h2 / s] : List Int).sum = h0 / s + h1 / s + h2 / s := by
      simp only [List.sum_cons, List.sum_nil]
      omega
    rw [hsum]
    by_cases hlt : h0 / s + h1 / s + h2 / s < n
    · rw [if_pos hlt]
      refine ⟨_, rfl, ?_⟩
      simp only [List.zipWith_cons_cons, List.zipWith_nil_right]
      rw [Int.fdiv_eq_ediv_of_nonneg _ (by omega), Int.fdiv_eq_ediv_of_nonneg _ (by omega), Int.fdiv_eq_ediv_of_nonneg _ (by omega)]
      obtain ⟨hm, hA⟩ := maxI_mem [h0 / (h0 / s + 1), h1 / (h1 / s + 1), h2 / (h2 / s + 1)] (by simp)
      generalize maxI [h0 / (h0 / s + 1), h1 / (h1 / s + 1), h2 / (h2 / s + 1)] = s' at hm hA
      have a0 := hA (h0 / (h0 / s + 1)) (by simp)
      have a1 := hA (h1 / (h1 / s + 1)) (by simp)
      have a2 := hA (h2 / (h2 / s + 1)) (by simp)
      have s1' : 1 ≤ s' := by
        have : 1 ≤ h0 / (h0 / s + 1) := (Int.le_ediv_iff_mul_le (by omega)).mpr (by omega)
        omega
      have up : ∀ h S', s' < S' → h / (h / s + 1) ≤ s' → 0 ≤ h / s → h / S' ≤ h / s := by
        intro h S' hS' hh hn
        have := (dual (h := h) (S := S') (a := h / s + 1) (by omega) (by omega))
        omega
      have low : ∀ h, s' = h / (h / s + 1) → 0 ≤ h / s → s' < s ∧ h / s + 1 ≤ h / s' := by
        intro h hh hn
        have d1 := (dual (h := h) (S := s) (a := h / s + 1) (by omega) (by omega))
        have d2 := (dual (h := h) (S := s') (a := h / s + 1) (by omega) (by omega))
        omega
      have mono : s' < s → h0 / s ≤ h0 / s' ∧ h1 / s ≤ h1 / s' ∧ h2 / s ≤ h2 / s' := fun hl => ⟨anti (by omega) (by omega) (by omega), anti (by omega) (by omega) (by omega), anti (by omega) (by omega) (by omega)⟩
      refine ⟨s1', fun S' hS' => ?_, .inr ?_, ?_⟩
      · have u0 := up h0 S' hS' a0 n0
        have u1 := up h1 S' hS' a1 n1
        have u2 := up h2 S' hS' a2 n2
        omega
      · simp only [List.mem_cons, List.not_mem_nil, or_false] at hm
        rcases hm with h | h | h
        · have q := low h0 h n0
          have := mono q.1
          omega
        · have q := low h1 h n1
          have := mono q.1
          omega
        · have q := low h2 h n2
          have := mono q.1
          omega
      · simp only [List.mem_cons, List.not_mem_nil, or_false] at hm
        rcases hm with h | h | h
        · exact ⟨h0 / s + 1, by omega, by omega, .inl h⟩
        · exact ⟨h1 / s + 1, by omega, by omega, .inr (.inl h)⟩
        · exact ⟨h2 / s + 1, by omega, by omega, .inr (.inr h)⟩
    · rw [if_neg hlt]
      exact ⟨s, rfl, s1, sm, .inl (by omega), a, a1, a6, sa⟩
theorem row_mem (vs : List Int) (n one : Nat) (x : Int) : ∀ k, x ∈ rowF vs n one k ↔ ∃ two, two < k ∧ x = minI (rat vs (givenF n one two))
  | 0 => by
    rw [rowF_zero]
    simp
  | k + 1 => by
    rw [rowF_succ, List.mem_append, row_mem vs n one x k, List.mem_singleton]
    constructor
    · rintro (⟨two, h1, h2⟩ | h)
      · exact ⟨two, by omega, h2⟩
      · exact ⟨k, by omega, h⟩
    · rintro ⟨two, h1, h2⟩
      by_cases h : two = k
      · exact .inr (by rw [h2, h])
      · exact .inl ⟨two, by omega, h2⟩
theorem worst_mem (vs : List Int) (n : Nat) (x : Int) : ∀ i, x ∈ worstF vs n i ↔ ∃ one, one < i ∧ ∃ two, two < n + 1 - one ∧ x = minI (rat vs (givenF n one two))
  | 0 => by
    rw [worstF_zero]
    simp
  | i + 1 => by
    rw [worstF_succ, List.mem_append, worst_mem vs n x i, row_mem]
    constructor
    · rintro (⟨one, h1, h2⟩ | h)
      · exact ⟨one, by omega, h2⟩
      · exact ⟨i, by omega, h⟩
    · rintro ⟨one, h1, h2⟩
      by_cases h : one = i
      · subst h
        exact .inr h2
      · exact .inl ⟨one, by omega, h2⟩
theorem rat_mem {v0 v1 v2 g0 g1 g2 x : Int} : x ∈ rat [v0, v1, v2] [g0, g1, g2] ↔ (0 < g0 ∧ x = 60 * v0 / g0) ∨ (0 < g1 ∧ x = 60 * v1 / g1) ∨ (0 < g2 ∧ x = 60 * v2 / g2) := by
  have one : ∀ v g : Int, x ∈ ratP (v, g) ↔ (0 < g ∧ x = 60 * v / g) := by
    intro v g
    unfold ratP
    by_cases h : 0 < g
    · rw [if_pos h, List.mem_singleton, Int.fdiv_eq_ediv_of_nonneg _ (by omega)]
      exact ⟨fun q => ⟨h, q⟩, fun q => q.2⟩
    · rw [if_neg h]
      simp
      omega
  show x ∈ ([(v0, g0), (v1, g1), (v2, g2)] : List (Int × Int)).flatMap ratP ↔ _
  simp only [List.flatMap_cons, List.flatMap_nil, List.append_nil, List.mem_append, one]
theorem worst_max {v0 v1 v2 S : Int} {n : Nat} (p0 : 60 ≤ 60 * v0) (p1 : 60 ≤ 60 * v1) (p2 : 60 ≤ 60 * v2) (hn : 1 ≤ n) (hS : 1 ≤ S)
    (sm : ∀ S', S < S' → 60 * v0 / S' + 60 * v1 / S' + 60 * v2 / S' < n) (st : (n : Int) ≤ 60 * v0 / S + 60 * v1 / S + 60 * v2 / S) : maxI (worstF [v0, v1, v2] n (n + 1)) = S := by
  have upper : ∀ one two : Nat, one < n + 1 → two < n + 1 - one → minI (rat [v0, v1, v2] (givenF n one two)) ≤ S := by
    intro one two h1 h2
    obtain ⟨_, hA⟩ := minI_mem _ (rat_ne [v0, v1, v2] rfl n one two (by omega) (by omega) hn)
    generalize minI (rat [v0, v1, v2] (givenF n one two)) = x at hA
    by_cases hx : x ≤ S
    · exact hx
    have hx' : S < x := by omega
    have ht := sm x hx'
    unfold givenF at hA
    have each : ∀ h g : Int, 0 ≤ h → (0 < g → x ≤ h / g) → g ≤ h / x := by
      intro h g hh hg
      by_cases hp : 0 < g
      · exact (dual (by omega) hp).mpr (hg hp)
      · have := Int.ediv_nonneg hh (show 0 ≤ x by omega)
        omega
    have e0 := each (60 * v0) (one : Int) (by omega) (fun hp => hA _ (rat_mem.mpr (.inl ⟨hp, rfl⟩)))
    have e1 := each (60 * v1) (two : Int) (by omega) (fun hp => hA _ (rat_mem.mpr (.inr (.inl ⟨hp, rfl⟩))))
    have e2 := each (60 * v2) ((n : Int) - (one : Int) - (two : Int)) (by omega) (fun hp => hA _ (rat_mem.mpr (.inr (.inr ⟨hp, rfl⟩))))
    omega
  obtain ⟨hm, hA⟩ := maxI_mem _ (worst_ne [v0, v1, v2] n)
  generalize maxI (worstF [v0, v1, v2] n (n + 1)) = M at hm hA
  obtain ⟨one, h1, two, h2, hx⟩ := (worst_mem _ _ _ _).mp hm
  have hM := upper one two h1 h2
  rw [← hx] at hM
  have q0 := Int.ediv_nonneg (show 0 ≤ 60 * v0 by omega) (show 0 ≤ S by omega)
  have q1 := Int.ediv_nonneg (show 0 ≤ 60 * v1 by omega) (show 0 ≤ S by omega)
  obtain ⟨a, b, ha, hb, hab, hc⟩ : ∃ a b : Nat, (a : Int) ≤ 60 * v0 / S ∧ (b : Int) ≤ 60 * v1 / S ∧ a + b ≤ n ∧ (n : Int) - (a : Int) - (b : Int) ≤ 60 * v2 / S := by
    by_cases c0 : (n : Int) ≤ 60 * v0 / S
    · have q2 := Int.ediv_nonneg (show 0 ≤ 60 * v2 by omega) (show 0 ≤ S by omega)
      exact ⟨n, 0, c0, q1, by omega, by omega⟩
    · by_cases c1 : (n : Int) - 60 * v0 / S ≤ 60 * v1 / S
      · have q2 := Int.ediv_nonneg (show 0 ≤ 60 * v2 by omega) (show 0 ≤ S by omega)
        exact ⟨(60 * v0 / S).toNat, ((n : Int) - 60 * v0 / S).toNat, by omega, by omega, by omega, by omega⟩
      · exact ⟨(60 * v0 / S).toNat, (60 * v1 / S).toNat, by omega, by omega, by omega, by omega⟩
  have hin : minI (rat [v0, v1, v2] (givenF n a b)) ∈ worstF [v0, v1, v2] n (n + 1) := (worst_mem _ _ _ _).mpr ⟨a, by omega, b, by omega, rfl⟩
  have h3 := hA _ hin
  obtain ⟨hmem, _⟩ := minI_mem _ (rat_ne [v0, v1, v2] rfl n a b (by omega) (by omega) hn)
  generalize minI (rat [v0, v1, v2] (givenF n a b)) = y at hmem h3
  unfold givenF at hmem
  have hy : S ≤ y := by
    rcases rat_mem.mp hmem with ⟨g, e⟩ | ⟨g, e⟩ | ⟨g, e⟩
    · rw [e]; exact (dual (by omega) g).mp ha
    · rw [e]; exact (dual (by omega) g).mp hb
    · rw [e]; exact (dual (by omega) g).mp hc
  omega
theorem best_cases (v0 v1 v2 a b c : Int) (ha : 0 ≤ a) (hb : 0 ≤ b) (hc : 0 ≤ c) :
    (bestK [v0, v1, v2] [a, b, c] = 0 ∧ 60 * v1 / (b + 1) ≤ 60 * v0 / (a + 1) ∧ 60 * v2 / (c + 1) ≤ 60 * v0 / (a + 1)) ∨
    (bestK [v0, v1, v2] [a, b, c] = 1 ∧ 60 * v0 / (a + 1) < 60 * v1 / (b + 1) ∧ 60 * v2 / (c + 1) ≤ 60 * v1 / (b + 1)) ∨
    (bestK [v0, v1, v2] [a, b, c] = 2 ∧ 60 * v0 / (a + 1) < 60 * v2 / (c + 1) ∧ 60 * v1 / (b + 1) < 60 * v2 / (c + 1)) := by
  have e0 : quo [v0, v1, v2] [a, b, c] 0 = 60 * v0 / (a + 1) := by
    rw [quo_eq]
    exact Int.fdiv_eq_ediv_of_nonneg _ (by show 0 ≤ a + 1; omega)
  have e1 : quo [v0, v1, v2] [a, b, c] 1 = 60 * v1 / (b + 1) := by
    rw [quo_eq]
    exact Int.fdiv_eq_ediv_of_nonneg _ (by show 0 ≤ b + 1; omega)
  have e2 : quo [v0, v1, v2] [a, b, c] 2 = 60 * v2 / (c + 1) := by
    rw [quo_eq]
    exact Int.fdiv_eq_ediv_of_nonneg _ (by show 0 ≤ c + 1; omega)
  have g1 : ∀ x y : Int, gtP x (-((1 : Nat) : Int)) y (-((0 : Nat) : Int)) = decide (x > y) := by
    intro x y
    unfold gtP
    by_cases h : x = y
    · rw [if_pos h, h]; simp
    · rw [if_neg h]
  have g2 : ∀ x y : Int, gtP x (-((2 : Nat) : Int)) y (-((0 : Nat) : Int)) = decide (x > y) := by
    intro x y
    unfold gtP
    by_cases h : x = y
    · rw [if_pos h, h]; simp
    · rw [if_neg h]
  have g3 : ∀ x y : Int, gtP x (-((2 : Nat) : Int)) y (-((1 : Nat) : Int)) = decide (x > y) := by
    intro x y
    unfold gtP
    by_cases h : x = y
    · rw [if_pos h, h]; simp
    · rw [if_neg h]
  by_cases h1 : 60 * v1 / (b + 1) > 60 * v0 / (a + 1)
  · by_cases h2 : 60 * v2 / (c + 1) > 60 * v1 / (b + 1)
    · have hk : bestK [v0, v1, v2] [a, b, c] = 2 := by
        unfold bestK argBest argBest argBest
        simp only [Nat.zero_add, e0, e1, e2, g1, g3, h1, h2, decide_true, if_true]
      exact .inr (.inr ⟨hk, by omega, by omega⟩)
    · have hk : bestK [v0, v1, v2] [a, b, c] = 1 := by
        unfold bestK argBest argBest argBest
        simp only [Nat.zero_add, e0, e1, e2, g1, g3, h1, h2, decide_true, decide_false, Bool.false_eq_true, if_true, if_false]
      exact .inr (.inl ⟨hk, by omega, by omega⟩)
  · by_cases h2 : 60 * v2 / (c + 1) > 60 * v0 / (a + 1)
    · have hk : bestK [v0, v1, v2] [a, b, c] = 2 := by
        unfold bestK argBest argBest argBest
        simp only [Nat.zero_add, e0, e1, e2, g1, g2, h1, h2, decide_true, decide_false, Bool.false_eq_true, if_true, if_false]
      exact .inr (.inr ⟨hk, by omega, by omega⟩)
    · have hk : bestK [v0, v1, v2] [a, b, c] = 0 := by
        unfold bestK argBest argBest argBest
        simp only [Nat.zero_add, e0, e1, e2, g1, g2, h1, h2, decide_true, decide_false, Bool.false_eq_true, if_true, if_false]
      exact .inl ⟨hk, by omega, by omega⟩
theorem served_inv {v0 v1 v2 S n : Int} (p0 : 60 ≤ 60 * v0) (p1 : 60 ≤ 60 * v1) (p2 : 60 ≤ 60 * v2) (hS : 1 ≤ S) (st : n ≤ 60 * v0 / S + 60 * v1 / S + 60 * v2 / S) :
    ∀ j : Nat, (j : Int) ≤ n → ∃ a b c, servedF [v0, v1, v2] j = [a, b, c] ∧ a + b + c = j ∧ 0 ≤ a ∧ 0 ≤ b ∧ 0 ≤ c ∧
      ((a ≤ 60 * v0 / (S + 1) ∧ b ≤ 60 * v1 / (S + 1) ∧ c ≤ 60 * v2 / (S + 1)) ∨
       (60 * v0 / (S + 1) ≤ a ∧ a ≤ 60 * v0 / S ∧ 60 * v1 / (S + 1) ≤ b ∧ b ≤ 60 * v1 / S ∧ 60 * v2 / (S + 1) ≤ c ∧ c ≤ 60 * v2 / S ∧
        (60 * v1 / (S + 1) < b → a = 60 * v0 / S) ∧ (60 * v2 / (S + 1) < c → a = 60 * v0 / S ∧ b = 60 * v1 / S)))
  | 0, _ => by
    have d0 := Int.ediv_nonneg (show 0 ≤ 60 * v0 by omega) (show 0 ≤ S + 1 by omega)
    have d1 := Int.ediv_nonneg (show 0 ≤ 60 * v1 by omega) (show 0 ≤ S + 1 by omega)
    have d2 := Int.ediv_nonneg (show 0 ≤ 60 * v2 by omega) (show 0 ≤ S + 1 by omega)
    exact ⟨0, 0, 0, servedF_zero _, rfl, by omega, by omega, by omega, .inl ⟨d0, d1, d2⟩⟩
  | j + 1, hj => by
    obtain ⟨a, b, c, hs, hsum, ha, hb, hc, hI⟩ := served_inv p0 p1 p2 hS st j (by omega)
    have m0 := anti (h := 60 * v0) (S := S) (S' := S + 1) (by omega) (by omega) (by omega)
    have m1 := anti (h := 60 * v1) (S := S) (S' := S + 1) (by omega) (by omega) (by omega)
    have m2 := anti (h := 60 * v2) (S := S) (S' := S + 1) (by omega) (by omega) (by omega)
    have u0 := dual (h := 60 * v0) (S := S + 1) (a := a + 1) (by omega) (by omega)
    have u1 := dual (h := 60 * v1) (S := S + 1) (a := b + 1) (by omega) (by omega)
    have u2 := dual (h := 60 * v2) (S := S + 1) (a := c + 1) (by omega) (by omega)
    have w0 := dual (h := 60 * v0) (S := S) (a := a + 1) (by omega) (by omega)
    have w1 := dual (h := 60 * v1) (S := S) (a := b + 1) (by omega) (by omega)
    have w2 := dual (h := 60 * v2) (S := S) (a := c + 1) (by omega) (by omega)
    have hbst := best_cases v0 v1 v2 a b c ha hb hc
    rw [servedF_succ, hs]
    generalize 60 * v0 / (S + 1) = D0 at *
    generalize 60 * v1 / (S + 1) = D1 at *
    generalize 60 * v2 / (S + 1) = D2 at *
    generalize 60 * v0 / S = q0 at *
    generalize 60 * v1 / S = q1 at *
    generalize 60 * v2 / S = q2 at *
    generalize 60 * v0 / (a + 1) = Q0 at *
    generalize 60 * v1 / (b + 1) = Q1 at *
    generalize 60 * v2 / (c + 1) = Q2 at *
    clear p0 p1 p2 hS
    have hj' : a + b + c + 1 ≤ n := by clear hI m0 m1 m2 u0 u1 u2 w0 w1 w2 hbst; omega
    have hsum' : a + b + c + 1 = ((j + 1 : Nat) : Int) := by clear hI m0 m1 m2 u0 u1 u2 w0 w1 w2 hbst; omega
    have hq : a + b + c + 1 ≤ q0 + q1 + q2 := Int.le_trans hj' st
    have ha' : 0 ≤ a + 1 := by clear hI m0 m1 m2 u0 u1 u2 w0 w1 w2 hbst; omega
    have hb' : 0 ≤ b + 1 := by clear hI m0 m1 m2 u0 u1 u2 w0 w1 w2 hbst; omega
    have hc' : 0 ≤ c + 1 := by clear hI m0 m1 m2 u0 u1 u2 w0 w1 w2 hbst; omega
    clear hj st hj' hsum hs
    rcases hbst with ⟨hk, e1, e2⟩ | ⟨hk, e1, e2⟩ | ⟨hk, e1, e2⟩
    · rw [hk]
      refine ⟨a + 1, b, c, rfl, by omega, ha', hb, hc, ?_⟩
      clear hsum' hk ha' hb' hc'
      rcases hI with hI | hI
      · by_cases h : a + 1 ≤ D0
        · exact .inl ⟨h, hI.2.1, hI.2.2⟩
        · have h0 : ¬ S + 1 ≤ Q0 := fun z => h (u0.mpr z)
          have h1 : ¬ b + 1 ≤ D1 := fun z => h0 (Int.le_trans (u1.mp z) e1)
          have h2 : ¬ c + 1 ≤ D2 := fun z => h0 (Int.le_trans (u2.mp z) e2)
          have h3 : a + 1 ≤ q0 := by
            by_cases z : S ≤ Q0
            · exact w0.mpr z
            · have z1 : ¬ b + 1 ≤ q1 := fun y => z (Int.le_trans (w1.mp y) e1)
              have z2 : ¬ c + 1 ≤ q2 := fun y => z (Int.le_trans (w2.mp y) e2)
              clear u0 u1 u2 w0 w1 w2 e1 e2 h0
              omega
          clear u0 u1 u2 w0 w1 w2 e1 e2 h0 hq
          refine .inr ⟨?_, h3, ?_, ?_, ?_, ?_, ?_, ?_⟩ <;> omega
      · have h3 : a + 1 ≤ q0 := by
          by_cases z : S ≤ Q0
          · exact w0.mpr z
          · have z1 : ¬ b + 1 ≤ q1 := fun y => z (Int.le_trans (w1.mp y) e1)
            have z2 : ¬ c + 1 ≤ q2 := fun y => z (Int.le_trans (w2.mp y) e2)
            clear u0 u1 u2 w0 w1 w2 e1 e2 m0 m1 m2 hI
            omega
        obtain ⟨i1, i2, i3, i4, i5, i6, i7, i8⟩ := hI
        clear u0 u1 u2 w0 w1 w2 e1 e2 m0 m1 m2 hq
        refine .inr ⟨?_, h3, i3, i4, i5, i6, ?_, ?_⟩ <;> omega
    · rw [hk]
      refine ⟨a, b + 1, c, rfl, by omega, ha, hb', hc, ?_⟩
      clear hsum' hk ha' hb' hc'
      rcases hI with hI | hI
      · by_cases h : b + 1 ≤ D1
        · exact .inl ⟨hI.1, h, hI.2.2⟩
        · have h0 : ¬ S + 1 ≤ Q1 := fun z => h (u1.mpr z)
          have h1 : ¬ a + 1 ≤ D0 := fun z => h0 (Int.le_trans (u0.mp z) (Int.le_of_lt e1))
          have h2 : ¬ c + 1 ≤ D2 := fun z => h0 (Int.le_trans (u2.mp z) e2)
          have hS1 : ¬ S < Q1 := h0
          have z0 : ¬ a + 1 ≤ q0 := fun y => hS1 (Int.lt_of_le_of_lt (w0.mp y) e1)
          have h3 : b + 1 ≤ q1 := by
            by_cases z : S ≤ Q1
            · exact w1.mpr z
            · have z2 : ¬ c + 1 ≤ q2 := fun y => z (Int.le_trans (w2.mp y) e2)
              have z1 : ¬ b + 1 ≤ q1 := fun y => z (w1.mp y)
              clear u0 u1 u2 w0 w1 w2 e1 e2 h0 hS1
              omega
          clear u0 u1 u2 w0 w1 w2 e1 e2 h0 hq hS1
          refine .inr ⟨?_, ?_, ?_, h3, ?_, ?_, ?_, ?_⟩ <;> omega
      · obtain ⟨i1, i2, i3, i4, i5, i6, i7, i8⟩ := hI
        have h0 : ¬ S < Q1 := fun z => absurd (u1.mpr z) (by clear u0 u1 u2 w0 w1 w2 e1 e2 m0 m1 m2 hq i7 i8; omega)
        have z0 : ¬ a + 1 ≤ q0 := fun y => h0 (Int.lt_of_le_of_lt (w0.mp y) e1)
        have h3 : b + 1 ≤ q1 := by
          by_cases z : S ≤ Q1
          · exact w1.mpr z
          · have z2 : ¬ c + 1 ≤ q2 := fun y => z (Int.le_trans (w2.mp y) e2)
            have z1 : ¬ b + 1 ≤ q1 := fun y => z (w1.mp y)
            clear u0 u1 u2 w0 w1 w2 e1 e2 m0 m1 m2 h0 i7 i8
            omega
        clear u0 u1 u2 w0 w1 w2 e1 e2 m0 m1 m2 hq h0
        refine .inr ⟨i1, i2, ?_, h3, i5, i6, ?_, ?_⟩ <;> omega
    · rw [hk]
      refine ⟨a, b, c + 1, rfl, by omega, ha, hb, hc', ?_⟩
      clear hsum' hk ha' hb' hc'
      rcases hI with hI | hI
      · by_cases h : c + 1 ≤ D2
        · exact .inl ⟨hI.1, hI.2.1, h⟩
        · have h0 : ¬ S < Q2 := fun z => h (u2.mpr z)
          have h1 : ¬ a + 1 ≤ D0 := fun z => h0 (Int.lt_trans (u0.mp z) e1)
          have h2 : ¬ b + 1 ≤ D1 := fun z => h0 (Int.lt_trans (u1.mp z) e2)
          have z0 : ¬ a + 1 ≤ q0 := fun y => h0 (Int.lt_of_le_of_lt (w0.mp y) e1)
          have z1 : ¬ b + 1 ≤ q1 := fun y => h0 (Int.lt_of_le_of_lt (w1.mp y) e2)
          clear u0 u1 u2 w0 w1 w2 e1 e2 h0
          refine .inr ⟨?_, ?_, ?_, ?_, ?_, ?_, ?_, ?_⟩ <;> omega
      · obtain ⟨i1, i2, i3, i4, i5, i6, i7, i8⟩ := hI
        have h0 : ¬ S < Q2 := fun z => absurd (u2.mpr z) (by clear u0 u1 u2 w0 w1 w2 e1 e2 m0 m1 m2 hq i7 i8; omega)
        have z0 : ¬ a + 1 ≤ q0 := fun y => h0 (Int.lt_of_le_of_lt (w0.mp y) e1)
        have z1 : ¬ b + 1 ≤ q1 := fun y => h0 (Int.lt_of_le_of_lt (w1.mp y) e2)
        clear u0 u1 u2 w0 w1 w2 e1 e2 m0 m1 m2 h0
        refine .inr ⟨i1, i2, i3, i4, ?_, ?_, i7, ?_⟩ <;> omega
theorem dealt_val (q0 q1 q2 D0 D1 D2 S n : Int) (e0 : h0 / S = q0) (e1 : h1 / S = q1) (e2 : h2 / S = q2) (f0 : h0 / (S + 1) = D0) (f1 : h1 / (S + 1) = D1) (f2 : h2 / (S + 1) = D2) :
    dealtF [h0, h1, h2] n S = [D0 + dMore (n - (D0 + D1 + D2)) (q0 - D0), D1 + dMore (n - (D0 + D1 + D2) - dMore (n - (D0 + D1 + D2)) (q0 - D0)) (q1 - D1),
      D2 + dMore (n - (D0 + D1 + D2) - dMore (n - (D0 + D1 + D2)) (q0 - D0) - dMore (n - (D0 + D1 + D2) - dMore (n - (D0 + D1 + D2)) (q0 - D0)) (q1 - D1)) (q2 - D2)] := by
  have hd : ([h0, h1, h2] : List Int).map (fun own => own / (S + 1)) = [D0, D1, D2] := by
    simp only [List.map_cons, List.map_nil, f0, f1, f2]
  rw [dealtF_eq _ _ _ _ hd]
  have hsum : ([D0, D1, D2] : List Int).sum = D0 + D1 + D2 := by
    simp only [List.sum_cons, List.sum_nil]
    omega
  rw [hsum]
  generalize n - (D0 + D1 + D2) = o
  have z0 := dOver_zero [h0, h1, h2] S ([D0, D1, D2], o)
  have z1 : dOver [h0, h1, h2] S 1 ([D0, D1, D2], o) = ([D0 + dMore o (q0 - D0), D1, D2], o - dMore o (q0 - D0)) := by
    rw [dOver_succ _ _ 0 _ _ z0.symm, ← e0]
    rfl
  have z2 : dOver [h0, h1, h2] S 2 ([D0, D1, D2], o) = ([D0 + dMore o (q0 - D0), D1 + dMore (o - dMore o (q0 - D0)) (q1 - D1), D2], o - dMore o (q0 - D0) - dMore (o - dMore o (q0 - D0)) (q1 - D1)) := by
    rw [dOver_succ _ _ 1 _ _ z1.symm, ← e1]
    rfl
  rw [dOver_succ _ _ 2 _ _ z2.symm, ← e2]
  rfl
theorem plain_facts (f i l n : Nat) (hV : Votes f i l) (h2 : 2 ≤ n) (h7 : n < 7) :
    (∀ j, j ≤ n → 1 ≤ dSize (([(f : Int), (i : Int), (l : Int)] : List Int).map (60 * ·)) n j ∧ dSize (([(f : Int), (i : Int), (l : Int)] : List Int).map (60 * ·)) n j ≠ 127 ∧ dSize (([(f : Int), (i : Int), (l : Int)] : List Int).map (60 * ·)) n j ≠ 126) ∧
    dealtF (([(f : Int), (i : Int), (l : Int)] : List Int).map (60 * ·)) n (dSize (([(f : Int), (i : Int), (l : Int)] : List Int).map (60 * ·)) n n) = servedF [(f : Int), (i : Int), (l : Int)] n ∧
    maxI (worstF [(f : Int), (i : Int), (l : Int)] n (n + 1)) = dSize (([(f : Int), (i : Int), (l : Int)] : List Int).map (60 * ·)) n n := by
  unfold Votes at hV
  have p0 : 60 ≤ 60 * (f : Int) := by omega
  have p1 : 60 ≤ 60 * (i : Int) := by omega
  have p2 : 60 ≤ 60 * (l : Int) := by omega
  have hmap : ([(f : Int), (i : Int), (l : Int)] : List Int).map (60 * ·) = [60 * (f : Int), 60 * (i : Int), 60 * (l : Int)] := rfl
  rw [hmap]
  have inv := size_inv (n := (n : Int)) p0 p1 p2 (by omega) (by omega)
  refine ⟨fun j _ => ?_, ?_⟩
  · obtain ⟨s, hs, s1, _, _, a, a1, a6, sa⟩ := inv j
    rw [hs]
    have hval : ∀ v : Nat, s = 60 * (v : Int) / a → s ≠ 127 ∧ s ≠ 126 := by
      intro v hv
      have ha : a = 1 ∨ a = 2 ∨ a = 3 ∨ a = 4 ∨ a = 5 ∨ a = 6 := by omega
      rcases ha with rfl | rfl | rfl | rfl | rfl | rfl <;> omega
    rcases sa with h | h | h
    · exact ⟨s1, hval f h⟩
    · exact ⟨s1, hval i h⟩
    · exact ⟨s1, hval l h⟩
  · obtain ⟨S, hs, s1, sm, st, _⟩ := inv n
    rw [hs]
    have st' : (n : Int) ≤ 60 * (f : Int) / S + 60 * (i : Int) / S + 60 * (l : Int) / S := by
      rcases st with h | h
      · exact h
      · omega
    refine ⟨?_, worst_max p0 p1 p2 (by omega) s1 sm st'⟩
    obtain ⟨a, b, c, hsv, hsum, ha, hb, hc, hI⟩ := served_inv p0 p1 p2 s1 st' n (Int.le_refl _)
    have hlt := sm (S + 1) (by omega)
    rw [hsv, dealt_val _ _ _ _ _ _ _ _ rfl rfl rfl rfl rfl rfl]
    generalize 60 * (f : Int) / (S + 1) = D0 at *
    generalize 60 * (i : Int) / (S + 1) = D1 at *
    generalize 60 * (l : Int) / (S + 1) = D2 at *
    generalize 60 * (f : Int) / S = q0 at *
    generalize 60 * (i : Int) / S = q1 at *
    generalize 60 * (l : Int) / S = q2 at *
    have e0 : D0 + dMore ((n : Int) - (D0 + D1 + D2)) (q0 - D0) = a := by
      unfold dMore
      split <;> omega
    have m0 : dMore ((n : Int) - (D0 + D1 + D2)) (q0 - D0) = a - D0 := by omega
    have e1 : D1 + dMore ((n : Int) - (D0 + D1 + D2) - (a - D0)) (q1 - D1) = b := by
      unfold dMore
      split <;> omega
    have m1 : dMore ((n : Int) - (D0 + D1 + D2) - (a - D0)) (q1 - D1) = b - D1 := by omega
    have e2 : D2 + dMore ((n : Int) - (D0 + D1 + D2) - (a - D0) - (b - D1)) (q2 - D2) = c := by
      unfold dMore
      split <;> omega
    rw [e0, m0, e1, m1, e2]
end
end Mine
end

/-! part M35 -/
section
open PySem PySem.W PyProof.Rows PySem.Calls PyProof.Rows.LCg
namespace Mine
theorem News.differ {h₀ h : Heap} {L a b : Addr} {o o' : Obj} {l : List (Addr × Obj)} (N : News h₀ L h l) (ha : (a, o) ∈ l) (hb : (b, o') ∈ l) (hd : o.data ≠ o'.data) : a ≠ b := by
  rintro rfl
  have h1 := (N _ ha).1
  have h2 := (N _ hb).1
  rw [h1] at h2
  exact hd (congrArg Obj.data (Option.some.inj h2))
theorem seq_ne_cell {xs : Array Value} {n : Nat} {v : Option Value} : Data.seq xs n ≠ Data.cell v := nofun
section
variable {w : World} {A A₀ : Around} {E : Value → Shared → Prop} {s : Shared} {h₀ base : Heap} {L : Addr} {m : Str → Option Value} {news : List (Addr × Obj)} {mean : ExcName → Option Value} {mg mb : Str → Option Value}
  {fa : Addr} {cd : Value}
set_option maxHeartbeats 1600000 in
theorem lawAll {Q : Flow → Shared → Prop} {axS : Addr} {vs : List Value} {ns : List Int} {o1 o2 o3 o4 o5 : Obj} (B : Below A₀ base [] h₀) (hA : A.frames = some [lwE L fa cd]) (hroom : A.depth + 30 < recursionLimit) (hu : A.units + 64 < cLine) (hh : A.handled = none) (hg : AllBare s.gens)
    (F : Fr h₀ L s.heap m) (N : News h₀ L s.heap [(L + 1 + 1 + 1 + 1 + 1, o5), (L + 1 + 1 + 1 + 1, o4), (L + 1 + 1 + 1, o3), (L + 1 + 1, o2), (L + 1, o1)]) (G : Gd w mean mg mb h₀) (Gb : Gd w mean mg mb base)
    (y1 : o1.data = .cell none) (y2 : o2.data = .cell none) (y3 : o3.data = .cell none) (y4 : o4.data = .cell none) (y5 : o5.data = .cell none)
    (hm : m "script" = some (.ref axS)) (hS : h₀.IsList axS vs.toArray) (hi : IntsAre vs ns) (hlen : ns.length ≤ 63)
    (kont : ∀ h' tk' G' m', AllBare G' → Fr h₀ L h' m' → Q (.ret (.bool true)) { s with heap := h', toks := tk', gens := G' }) :
    wpAny (model PW w) A (execs lwB (lwE L fa cd)) Q E s := by
  refine lawA (ns := ns) (vs := vs) (axS := axS) hh F N G y1 y2 hm hS hi hlen ?_
  intro h2 tk2 m2 Dr Dc Df dv cv fv c1 c2 c3 p1 p2 t F2 N2 hdv hcv hfv ho1 ho2 e1 e2 lts
  refine lawBB (ns := ns) (Dr := Dr) (Dc := Dc) (c1 := c1) (c2 := c2) B hA hroom hh hg F2 N2 G (by simp) (by simp) (by simp) hdv hcv ho1 e1 e2 ?_
  intro h3 tk3 G3 m3 Do wv c hG3 F3 N3 offo hwv e3 e4 e5
  have N3' : News h₀ L h3 ((L + 1 + 1 + 1, o3) :: (L + 1 + 1 + 1 + 1, o4) :: [(Do, listOf (List.toArray wv) c), (L + 1, p1), (L + 1 + 1, p2), (L + 1 + 1 + 1 + 1 + 1, o5), (Df, listOf (List.toArray fv) c3), (Dc, listOf (List.toArray cv) c2), (Dr, listOf (List.toArray dv) c1)]) := News.sub N3 (by
    intro p hp
    simp only [List.mem_cons, List.not_mem_nil, or_false] at hp ⊢
    rcases hp with h | h | h | h | h | h | h | h | h <;> simp [h])
  refine lawC (ns := ns) (Dr := Dr) (Df := Df) (c1 := c1) (c3 := c3) hh hG3 F3 N3' ?off (by simp) (by simp) (by simp) hdv hfv ho2 y3 y4 e3 e4 e5 ?_
  case off =>
    intro p hp
    have q : ∀ (a : Addr) (o : Obj), (a, o) ∈ [(Do, listOf (List.toArray wv) c), (L + 1, p1), (L + 1 + 1, p2), (L + 1 + 1 + 1 + 1 + 1, o5), (Df, listOf (List.toArray fv) c3), (Dc, listOf (List.toArray cv) c2), (Dr, listOf (List.toArray dv) c1)] → (∃ xs n, o.data = .seq xs n) → a ≠ L + 1 + 1 + 1 ∧ a ≠ L + 1 + 1 + 1 + 1 := fun a o ha ⟨xs, n, hd⟩ =>
      ⟨News.differ N3' (List.mem_cons_of_mem _ (List.mem_cons_of_mem _ ha)) List.mem_cons_self (by rw [hd, y3]; exact seq_ne_cell), News.differ N3' (List.mem_cons_of_mem _ (List.mem_cons_of_mem _ ha)) (List.mem_cons_of_mem _ List.mem_cons_self) (by rw [hd, y4]; exact seq_ne_cell)⟩
    have hp' := hp
    simp only [List.mem_cons, List.not_mem_nil, or_false] at hp
    rcases hp with h | h | h | h | h | h | h
    · rw [h] at hp' ⊢; exact q _ _ hp' ⟨_, _, rfl⟩
    · rw [h]; exact ⟨by (refine neN ?_); omega, by (refine neN ?_); omega⟩
    · rw [h]; exact ⟨by (refine neN ?_); omega, by (refine neN ?_); omega⟩
    · rw [h]; exact ⟨by (refine neN ?_); omega, by (refine neN ?_); omega⟩
    · rw [h] at hp' ⊢; exact q _ _ hp' ⟨_, _, rfl⟩
    · rw [h] at hp' ⊢; exact q _ _ hp' ⟨_, _, rfl⟩
    · rw [h] at hp' ⊢; exact q _ _ hp' ⟨_, _, rfl⟩
  intro h4 tk4 G4 m4 Dv vv o4' hG4 F4 N4 offv hv4 ho4' hvv e6 e7
  obtain ⟨f, i, l, hV, hc⟩ := votes_of ns
  have hsn := seatsN_lt ns
  obtain ⟨pl1, pl2, pl3⟩ := plain_facts f i l (seatsN ns) hV hsn.1 hsn.2
  have hvb : ∀ a ∈ cnt (textF ns), 0 ≤ a ∧ a < 1000 := by
    intro a ha
    rw [hc] at ha
    unfold Votes at hV
    simp only [List.mem_cons, List.not_mem_nil, or_false] at ha
    omega
  rw [← hc] at pl1 pl2 pl3
  refine lawD' (ns := ns) (Do := Do) (wv := wv) (c := c) B hA hroom hu hh hG4 F4 N4 G Gb (by simp) hwv ho4' hvv e6 e7 (tape_octs _ fun c hc => codesOf_mem hc) (octs_big ns) (cnt_same ns) hvb pl1 ?_
  intro h5 tk5 G5 m5 D2 ys tZ hG5 F5 N5 hys e8 e9 e10
  have N5' : News h₀ L h5 ((L + 1 + 1 + 1 + 1 + 1, o5) :: (L + 1 + 1 + 1 + 1, o4') :: (D2, lst ys) :: (Dv, lst vv) :: []) := News.sub N5 (by
    intro p hp
    simp only [List.mem_cons, List.not_mem_nil, or_false] at hp ⊢
    rcases hp with h | h | h | h <;> simp [h])
  refine lawF (vs := cnt (textF ns)) (n := seatsN ns) (size := sizeF ns) hu hh hG5 F5 N5' G ?off5 ho4' y5 hvv hys rfl hvb (Nat.lt_trans hsn.2 (by decide)) pl2 e10 e8 e9 ?_
  case off5 =>
    intro p hp
    simp only [List.mem_cons, List.not_mem_nil, or_false] at hp
    rcases hp with h | h | h
    · rw [h]; (refine neN ?_); omega
    · rw [h]; exact News.differ N5' (o := lst ys) (o' := o5) (by simp) (by simp) (by rw [y5]; exact seq_ne_cell)
    · rw [h]; exact News.differ N5' (o := lst vv) (o' := o5) (by simp) (by simp) (by rw [y5]; exact seq_ne_cell)
  intro h6 tk6 G6 m6 hG6 F6 N6 e11 e12
  refine lawG (vs := cnt (textF ns)) (n := seatsN ns) (Dv := Dv) (vv := vv) (o4 := o4') (size := sizeF ns) hh hG6 F6 N6 G (by simp) (by simp) ho4' hvv rfl hvb (Nat.lt_trans hsn.2 (by decide)) ?hne (worst_ne _ _) pl3 e12 e11 ?_
  case hne => exact fun one two h1 h2 => rat_ne _ rfl _ one two h1 h2 (by omega)
  intro h7 tk7 m7 F7
  exact kont h7 tk7 G6 m7 hG6 F7
end
end Mine
end

/-! part M36 -/
section
open PySem PySem.W PyProof.Rows PySem.Calls PyProof.Rows.LCg
namespace Mine
theorem lawD_body : lawD.1.body = lwB := by kernel_rfl
set_option maxHeartbeats 1600000 in
theorem wk : WalkO qv ["b3_exceptions"] (XL qv []) HK.says rwO.row.toRowW lawD.1 lawD.2 fun f vs => PySem.call f vs := by
  intro w s₀ s₁ mg mb G Y fa o pm cd doc dV kV ho hd hcd hD hmg hg args vals as hpre hlay hrd hwl hlo
  have KX := kIn_of Y
  refine Ground.open G ?_
  intro T B D TE TW
  clear B D TE TW
  wrow_args hpre hlay hrd hwl hlo
  all_goals (
    refine enter_call ?_
    w_top on
    have K0 := below_caller (Top.heap T)
    w_call any ho hd hcd hD T F)
  rename_i ns _ _ _ _ _ _ _ axS vs _ hS _ _ _ hI _ hcond _ h1 tk1 o5 o4 o3 o2 o1 x5 x4 x3 x2 x1 N0 X0
  clear X0
  rw [lawD_body]
  change wpAny (model PW w) (callerA.deeper (lwE s₁.heap.objs.size fa cd)) (execs lwB (lwE s₁.heap.objs.size fa cd)) _ _ _
  refine wpAny_noRaise ?_
  have G1 : Gd w (ExcName.means s₀.heap) mg mb s₁.heap := ⟨KX, T⟩
  have hb : AllBare s₁.gens := by
    intro y hy
    rw [hg] at hy
    simp at hy
  refine lawAll (ns := ns) (vs := vs) (axS := axS) K0 rfl ?hroom ?hu rfl hb F N0 G1 G1 x1 x2 x3 x4 x5 rfl hS hI (by omega) ?_
  case hroom =>
    show callerA.depth + 1 + 30 < recursionLimit
    decide
  case hu =>
    show callerA.units + 3 + 64 < cLine
    decide
  intro h2 tk2 G2 m2 hG2 F2
  refine ⟨.inl ⟨.bool true, ofPy (.bool true), [], rfl, ?_, ?_, ?_, ?_⟩, OldK.of_keep F2.keep, rfl, hG2⟩
  · exact fun _ => rfl
  · exact readsW_of_reads (by constructor)
  · exact postW_of (by wrow_shape) (by wtm_val) (by str_meet; first | done | w_fin)
  · exact fun _ => ⟨List.nodup_nil, fun a h => nomatch h⟩
theorem all : rwO.Holds := hd wk
end Mine
end

theorem PySem.Challenge.cw_wb0060_01_holds : PySem.Challenge.rw_wb0060_01.Holds := by
  exact Mine.all
