import PyProof.Rows.All
import Wide.All
import OpenK.AllK
import Wide.FinOn
import PySem.Challenge.RW_nq0008_01
set_option Elab.async false

/-! ## GBase -/
section
open PySem PySem.W PyProof.Rows PySem.Calls
open PySem.Sem (wp)
set_option maxRecDepth 100000
set_option maxHeartbeats 8000000
namespace Mine

/-- the builtins that may hold a bytearray while they run -/
def isDec : Code → Bool
  | .builtin id _ => (Builtin.Bytes.decodersThatHold ++ ["bytearray.__contains__", "bytearray.__mod__", "bytearray.__rmod__", "_struct.pack_into.held", "bytearray.find.held"]).contains id
  | _ => false
def Clean (l : List (Code × Pos)) : Prop := ∀ x ∈ l, isDec x.1 = false
def NoDec (Γ : Ctx) : Prop := isDec Γ.code = false ∧ Clean Γ.below

def wpG {α : Type} (M : Model) (A : Around) (t : Sem α) (Q : α → Shared → Prop) (E : Value → Shared → Prop) (s : Shared) : Prop :=
  ∀ Γ p, Γ.In A → NoDec Γ → wp M Γ t (fun a _ s' => Q a s') (fun e _ s' => E e s') p s
def codeG (M : Model) (A : Around) (c : Code) (R : Result → Shared → Prop) (s : Shared) : Prop :=
  ∀ Γ p, Γ.code = c → Γ.Below A → Clean Γ.below → wpCode M Γ R p s

section
variable {α β : Type} {M : Model} {A : Around} {E : Value → Shared → Prop} {s : Shared}
theorem wpG.any {t : Sem α} {Q : α → Shared → Prop} (h : wpAny M A t Q E s) : wpG M A t Q E s := fun Γ p hΓ _ => h Γ p hΓ
theorem codeG.any {c : Code} {R : Result → Shared → Prop} (h : codeAny M A c R s) : codeG M A c R s := fun Γ p hc hΓ _ => h Γ p hc hΓ
theorem wpG_mono {t : Sem α} {Q Q' : α → Shared → Prop} {E' : Value → Shared → Prop} (h : wpG M A t Q E s)
    (hQ : ∀ a s, Q a s → Q' a s) (hE : ∀ e s, E e s → E' e s) : wpG M A t Q' E' s :=
  fun Γ p hΓ hn => Sem.wp_mono M Γ t (fun a _ s => hQ a s) (fun e _ s => hE e s) p s (h Γ p hΓ hn)
theorem wpG_bind {m : Sem α} {f : α → Sem β} {Q : β → Shared → Prop} (h : wpG M A m (fun a s' => wpG M A (f a) Q E s') E s) :
    wpG M A (m >>= f) Q E s := fun Γ p hΓ hn => by
  rw [Sem.wp_bind']
  exact Sem.wp_mono M Γ m (fun a p' s' h' => h' Γ p' hΓ hn) (fun _ _ _ h' => h') p s (h Γ p hΓ hn)
theorem wpG_bindA {m : Sem α} {f : α → Sem β} {Q : β → Shared → Prop} (h : wpAny M A m (fun a s' => wpG M A (f a) Q E s') E s) :
    wpG M A (m >>= f) Q E s := wpG_bind (.any h)
theorem wpG_onRaise {m : Sem α} {k : Value → Sem Unit} {Q : α → Shared → Prop}
    (h : wpG M A m Q (fun e s' => wpG M A (k e) (fun _ s'' => E e s'') E s') s) : wpG M A (m.onRaise k) Q E s := fun Γ p hΓ hn => by
  rw [Sem.wp_onRaise]
  exact Sem.wp_mono M Γ m (fun _ _ _ h' => h') (fun e p' s' h' => h' Γ p' hΓ hn) p s (h Γ p hΓ hn)
theorem wpG_holding {vs : List Value} {m : Sem α} {Q : α → Shared → Prop} (h : wpG M A m Q E s) : wpG M A (holding vs m) Q E s :=
  fun Γ p hΓ hn => by rw [Sem.wp_holding]; exact h Γ p hΓ hn
theorem wpG_of_eq {t : Sem α} {a : α} {Q : α → Shared → Prop} (e : t = pure a) (h : Q a s) : wpG M A t Q E s := .any (wpAny_of_eq e h)
theorem wpG_pure {a : α} {Q : α → Shared → Prop} (h : Q a s) : wpG M A (pure a) Q E s := .any (wpAny_pure h)

theorem wpG_runValue {c : Code} {Q : Value → Shared → Prop}
    (hc : codeG M A c (fun r s' => match r with | .ok (.ret v) => Q v s' | .ok _ => False | .error e => E e s') s) :
    wpG M A (runValue c) Q E s := fun Γ p hΓ hn => by
  rw [Sem.wp_runValue]
  refine hc _ p rfl (hΓ.enter c none p (by intro x; cases x)) fun x hx => ?_
  rcases List.mem_cons.mp hx with rfl | hx
  · exact hn.1
  · exact hn.2 x hx
theorem wpG_call {f : Value} {pos : List Value} {kw : List (Str × Value)} {Q : Value → Shared → Prop}
    (hc : codeG M A (.call f ⟨pos, kw⟩) (fun r s' => match r with | .ok (.ret v) => Q v s' | .ok _ => False | .error e => E e s') s) :
    wpG M A (call f pos kw) Q E s := wpG_runValue hc
theorem wpG_run {c : Code} {h : Option Value} {Q : Flow → Shared → Prop}
    (hc : codeG M (A.mark h) c (fun r s' => match r with | .ok f => Q f s' | .error e => E e s') s) (hnb : h ≠ some byPass := by intro x; cases x) :
    wpG M A (run c h) Q E s := fun Γ p hΓ hn => by
  rw [Sem.wp_run]
  refine hc _ p rfl (hΓ.enter c h p hnb) fun x hx => ?_
  rcases List.mem_cons.mp hx with rfl | hx
  · exact hn.1
  · exact hn.2 x hx
theorem codeG_mono {c : Code} {R R' : Result → Shared → Prop} (h : codeG M A c R s) (hR : ∀ r s, R r s → R' r s) : codeG M A c R' s :=
  fun Γ p hc hΓ hn => wpCode_mono hR (h Γ p hc hΓ hn)
theorem codeG_of_tree {c : Code} {R : Result → Shared → Prop} (hd : isDec c = false)
    (h : wpG M (A.under c) (M.den c) (fun fin s' => match fin with | .done f => R (.ok f) s' | .again c' => c'.quiet = true ∧ codeG M A c' R s')
      (fun e s' => R (.error e) s') s) : codeG M A c R s := fun Γ p hc hΓ hn => by
  rw [wpCode_iff_wp, hc]
  refine Sem.wp_mono M Γ _ (fun fin p' s' h' => ?_) (fun _ _ _ h' => h') p s (h Γ p (hc ▸ hΓ.in) ⟨hc ▸ hd, hn⟩)
  cases fin with
  | done f => exact h'
  | again c' => exact ⟨h'.1, h'.2 (Γ.goto c') p' rfl (hΓ.goto c') hn⟩
end

section
variable {prog : Program} {w : World} {A : Around} {s : Shared} {R : Result → Shared → Prop}
theorem codeG_func {body : List Stmt} {env : Env}
    (h : wpG (model prog w) (A.deeper env) (execs body env) (fun f s' => R (.ok (.ret (match f with | .ret v => v | _ => .none))) s')
      (fun e s' => wpG (model prog w) (A.deeper env) (leaving env e) (fun _ s'' => R (.error e) s'') (fun e' s'' => R (.error e') s'') s') s) :
    codeG (model prog w) A (.func body env) R s := by
  refine codeG_of_tree rfl ?_
  show wpG _ (A.deeper env) (do point; match ← (execs body env).onRaise (leaving env) with | .ret v => ret v | _ => ret .none) _ _ s
  refine wpG_bindA (wpAny_point (wpG_bind (wpG_onRaise (wpG_mono h (fun f s' h' => ?_) fun _ _ h' => h'))))
  cases f <;> exact wpG_pure h'
theorem codeG_call_function {a : Addr} {args : Args} {o : Obj} {fd : FuncData} {body : List Stmt} (hroom : A.depth < recursionLimit)
    (ho : s.heap.get? a = some o)
    (hd' : o.data = .func fd) (hco : fd.scope.isCoroutine = false) (hgen : fd.scope.isGenerator = false) (hbody : fd.body = .stmts body) (hcd : s.heap.CodeRec fd.code fd.qualname)
    (h : wpAny (model prog w) A.in1 (bindArgs fd args) (fun binds s₁ =>
      wpAny (model prog w) A.in1 (newFunctionEnv fd.scope fd.globals fd.closure binds (fd.qualname ++ ".<locals>.") (some a) fd.code none fd.builtins)
        (fun env s₂ => s₂.heap.NoLimit ∧ codeG (model prog w) A (.func body env) R s₂) (fun e s' => R (.error e) s') s₁) (fun e s' => R (.error e) s') s) :
    codeG (model prog w) A (.call (.ref a) args) R s := by
  refine codeG_of_tree rfl (.any ?_)
  show wpAny _ A.in1 (callAny (.ref a) args) _ _ s
  simp only [callAny]
  refine wpAny_bind (wpAny_load ho ?_)
  obtain ⟨c, oc, vs, tq, hc, hoc, hdc, hq⟩ := hcd
  simp only [hd', callFunction, hco, hgen, hbody, hc]
  rw [hc] at h
  refine wpAny_bind (m := field (.ref c) 1) (wpAny_field hoc hdc hq (wpAny_bind (wpAny_pure ?_)))
  exact wpAny_bind (wpAny_mono h (fun binds s₁ h₁ => wpAny_bind (wpAny_mono h₁ (fun env s₂ h₂ => wpAny_bind (wpAny_enterFrame h₂.1 hroom
    (wpAny_pure (And.intro rfl h₂.2)))) fun _ _ h' => h')) fun _ _ h' => h')
end
end Mine
end

/-! ## GDef -/
section
open PySem PySem.W PyProof.Rows PySem.Calls
set_option maxRecDepth 100000
set_option maxHeartbeats 8000000
namespace Mine
section
variable {prog : Program} {w : World} {A A₀ : Around} {s : Shared} {K : Frag} {L : Addr} {h₀ base : Heap} {m mg mb : Str → Option Value} {news : List (Addr × Obj)} {p : Program} {loose : List Str} {mean : ExcName → Option Value}
  {env : Env} {outer : List Env} {R : Result → Shared → Prop} {name qual : Str} {params : Arguments} {body : List Stmt} {scope : Scope} {dV kV doc pm cdv ct oc : Value} {an od : Option Addr} {osl : Array (Option Value)} {f : Addr} {args : Args} {binds : List (Str × Value)}

theorem codeG_def (B : Below A₀ base outer h₀) (F : Fr h₀ L s.heap m) (X₀ : K.In h₀) (N : News h₀ L s.heap news) (T : Top p loose mean mg mb h₀) (hA : A.frames = some (env :: outer)) (hf : env.frame = some L) (hke : env.scope.kind = .function)
    (ho : K.lookup f = some ⟨oc, od, .func (fnOf name qual params body scope dV kV doc pm an cdv ct), osl⟩) (hcd : codeIn K cdv qual = true) (hroom : A.depth < recursionLimit)
    (hbind : BindsTo s (fnOf name qual params body scope dV kV doc pm an cdv ct) args binds) (hloc : ∀ y ∈ binds, scope.names.lookup y.1 = some .local)
    (h : ∀ g L' h₁, Fr h₀ L g m → Fr g L' h₁ (fun y => binds.reverse.lookup y) → News g L' h₁ news → Below A base (env :: outer) g → K.In g → Top p loose mean mg mb g →
      wpG (model prog w) (A.deeper (envOf qual scope L' f cdv)) (execs body (envOf qual scope L' f cdv))
        (fun fl s' => LeaveK h₀ L m g R (match fl with | .ret v => v | _ => .none) s') (fun _ _ => False)
        { s with heap := h₁, toks := s.toks + binds.length })
    (hco : scope.isCoroutine = false) (hgen : scope.isGenerator = false) (hk : scope.kind = .function)
    (hcell : ∀ x ∈ scope.names, x.2 ≠ .cell) : codeG (model prog w) A (.call (.ref f) args) R s := by
  obtain ⟨FG, BG, st, lv⟩ := groundX (R := R) B F N hA hf hke
  have hlim : s.heap.NoLimit := T.nolimit.keeps F.keep
  refine codeG_call_function hroom ((X₀.keeps F.keep) _ _ ho) rfl hco hgen rfl (codeRec_of (X₀.keeps F.keep) hcd) (hbind _ _ _ _ ?_)
  refine wpAny_newFunctionEnv hcell hloc (fun h₁ hns₀ hsb₀ => ⟨hlim.fresh _ hsb₀, codeG_func ?_⟩) hk
  have hk₁ : ∀ b o, s.heap.get? b = some o → h₁.get? b = some o := fun b o e => hsb₀.extBut b o (Nat.ne_of_lt (Heap.lt_size e)) (Heap.get?_push_of_some _ e)
  exact wpG_mono (h _ s.heap.objs.size h₁ FG ⟨hns₀, fun b o e => hk₁ b o (of_hideAll _ e), Nat.le_of_eq (hideAll_size _ _)⟩
    (fun p hp => ⟨hk₁ _ _ (N p hp).1, Nat.ne_of_lt (Heap.lt_size (N p hp).1), hideAll_none _ (List.mem_map_of_mem hp)⟩) BG (X₀.keeps st) (T.keeps st)) (fun fl s' hl => lv _ _ hl) fun _ _ y => y.elim

theorem codeG_defC (B : Below A₀ base outer h₀) (F : Fr h₀ L s.heap m) (X₀ : K.In h₀) (N : News h₀ L s.heap news) (T : Top p loose mean mg mb h₀) (hA : A.frames = some (env :: outer)) (hf : env.frame = some L) (hke : env.scope.kind = .function)
    (ho : K.lookup f = some ⟨oc, od, .func (fnOf name qual params body scope dV kV doc pm an cdv ct), osl⟩) (hcd : codeIn K cdv qual = true) (hroom : A.depth < recursionLimit)
    (hbind : BindsTo s (fnOf name qual params body scope dV kV doc pm an cdv ct) args binds) (hkind : (binds.all fun y => scope.names.lookup y.1 == some .local || scope.names.lookup y.1 == some .cell) = true)
    (hnd : ((cellsFrom 0 scope.names []).map (·.1)).Nodup)
    (h : ∀ g L' h₁ tk cells, Fr h₀ L g m → Fr g L' h₁ (bindL (envOfC qual scope L' f cdv).kindOf binds fun _ => none) → News g L' h₁ (cells ++ news) →
      CellsAre (bindC (envOfC qual scope L' f cdv).kindOf binds fun _ => none) (cellsFrom (L' + 1) scope.names []) cells → Below A base (env :: outer) g → K.In g → Top p loose mean mg mb g → (∀ p ∈ news, p.1 < L') →
      wpG (model prog w) (A.deeper (envOfC qual scope L' f cdv)) (execs body (envOfC qual scope L' f cdv))
        (fun fl s' => LeaveK h₀ L m g R (match fl with | .ret v => v | _ => .none) s') (fun _ _ => False)
        { s with heap := h₁, toks := tk })
    (hco : scope.isCoroutine = false) (hgen : scope.isGenerator = false) (hk : scope.kind = .function) : codeG (model prog w) A (.call (.ref f) args) R s := by
  obtain ⟨FG, BG, st, lv⟩ := groundX (R := R) B F N hA hf hke
  refine codeG_call_function hroom ((X₀.keeps F.keep) _ _ ho) rfl hco hgen rfl (codeRec_of (X₀.keeps F.keep) hcd) (hbind _ _ _ _ ?_)
  refine wpAny_newFunctionEnv_cells hk (kindsX hkind _) fun env' he s' x => ?_
  subst he
  refine ⟨(T.nolimit.keeps F.keep).keeps x.toInCall.keep, codeG_func ?_⟩
  obtain ⟨h₁, tk, rfl, _⟩ := x.done
  have hk₁ := x.toInCall.keep
  obtain ⟨cells, NC, Y⟩ := Cl.news (h₀ := s.heap) (Nat.le_refl _) fun n c hm => ⟨x.cell n c (lookup_of_mem_nodup (cellsFrom_names scope.names 0 (s.heap.objs.size + 1) [] [] rfl ▸ hnd) hm), x.above n c hm⟩
  refine wpG_mono (h _ s.heap.objs.size h₁ tk cells FG ⟨x.toInCall.ns, fun b o e => hk₁ b o (of_hideAll _ e), Nat.le_of_eq (hideAll_size _ _)⟩ (fun p hp => ?_) Y BG (X₀.keeps st) (T.keeps st) (fun p hp => Heap.lt_size (N p hp).1)) (fun fl s' hl => lv _ _ hl) fun _ _ y => y.elim
  rcases List.mem_append.mp hp with hp | hp
  · refine ⟨(NC p hp).1, (NC p hp).2.1, ?_⟩
    cases q : (hideAll s.heap (news.map (·.1))).get? p.1 with
    | none => rfl
    | some o => have := of_hideAll _ q; rw [(NC p hp).2.2] at this; cases this
  · exact ⟨hk₁ _ _ (N p hp).1, Nat.ne_of_lt (Heap.lt_size (N p hp).1), hideAll_none _ (List.mem_map_of_mem hp)⟩
end
end Mine
end

/-! ## GHead -/
section
open PySem PySem.W PyProof.Rows PySem.Calls
open PySem.Sem (wp)
set_option maxRecDepth 100000
set_option maxHeartbeats 8000000
namespace Mine

def cleanB (l : List (Code × Pos)) : Bool := l.all fun x => !isDec x.1
theorem cleanB_iff {l : List (Code × Pos)} : cleanB l = true ↔ Clean l := by
  unfold cleanB Clean
  simp

/-- a tree behind a look at the stack: where a holder stands below, the answer True at once -/
def guarded {α : Type} (t d : Sem α) : Sem α := Sem.stack fun st => if cleanB st then t else d

theorem guarded_any {α : Type} {M : Model} {A : Around} {t d : Sem α} {Q : α → Shared → Prop} {E : Value → Shared → Prop} {s : Shared} (ht : wpG M A t Q E s) (hd : wpAny M A d Q E s) : wpAny M A (guarded t d) Q E s := fun Γ p hΓ => by
  show wp M Γ (Sem.stack _) _ _ p s
  rw [wp]
  cases hc : cleanB ((Γ.code, p) :: Γ.below) with
  | false => rw [if_neg (by simp)]; exact hd Γ p hΓ
  | true =>
    rw [if_pos rfl]
    have hC := cleanB_iff.mp hc
    exact ht Γ p hΓ ⟨hC (Γ.code, p) (.head _), fun x hx => hC x (.tail _ hx)⟩
theorem any_guarded {α : Type} {M : Model} {A : Around} {t d : Sem α} {Q : α → Shared → Prop} {E : Value → Shared → Prop} {s : Shared} (h : wpAny M A (guarded t d) Q E s) : wpG M A t Q E s := fun Γ p hΓ hn => by
  have h' := h Γ p hΓ
  change wp M Γ (Sem.stack _) _ _ p s at h'
  rw [wp] at h'
  have hc : cleanB ((Γ.code, p) :: Γ.below) = true := cleanB_iff.mpr fun x hx => by
    rcases List.mem_cons.mp hx with rfl | hx
    · exact hn.1
    · exact hn.2 x hx
  rw [hc, if_pos rfl] at h'
  exact h'
theorem guarded_map {α β : Type} {M : Model} {A : Around} {t d : Sem α} {t' d' : Sem β} {Q : α → Shared → Prop} {Q' : β → Shared → Prop} {E E' : Value → Shared → Prop} {s : Shared}
    (h : wpAny M A (guarded t d) Q E s) (ht : wpG M A t Q E s → wpG M A t' Q' E' s) (hd : ∀ Γ p, wp M Γ d (fun a _ s' => Q a s') (fun e _ s' => E e s') p s → wp M Γ d' (fun a _ s' => Q' a s') (fun e _ s' => E' e s') p s) : wpAny M A (guarded t' d') Q' E' s := fun Γ p hΓ => by
  have hG := ht (any_guarded h)
  have h' := h Γ p hΓ
  change wp M Γ (Sem.stack _) _ _ p s at h'
  show wp M Γ (Sem.stack _) _ _ p s
  rw [wp] at h' ⊢
  cases hc : cleanB ((Γ.code, p) :: Γ.below) with
  | false =>
    rw [hc, if_neg (by simp)] at h'
    rw [if_neg (by simp)]
    exact hd Γ p h'
  | true =>
    rw [if_pos rfl]
    have hC := cleanB_iff.mp hc
    exact hG Γ p hΓ ⟨hC (Γ.code, p) (.head _), fun x hx => hC x (.tail _ hx)⟩

abbrev callerStub (tree : List Value → Sem Fin) (vs : List Value) : Thread := ⟨tree vs, .builtin "claim.caller" {}, default, []⟩

theorem callFrom_unguard {c : ClaimW} {tree dflt : List Value → Sem Fin} {w : World} {free : Addr → Prop} {gens : Prop} {kept : Heap → Prop} {s : Shared} (hz : s.asleep)
    (H : c.CallFrom (callerStub fun vs => guarded (tree vs) (dflt vs)) w free gens kept s) : c.CallFrom (callerStub tree) w free gens kept s := by
  intro args hpre hlay ord hord
  obtain ⟨vs, s₁, hl, n, o, s', hr, rest⟩ := H args hpre hlay ord hord
  refine ⟨vs, s₁, hl, ?_⟩
  have hz₁ : s₁.asleep := Shared.asleep_of_life (layAllW_rest _ _ _ hl).2.2.2 hz
  cases n with
  | zero => cases hr
  | succ n =>
    refine ⟨n, o, s', ?_, rest⟩
    have hst : step (denote table) c.prog w s₁ (callerStub (fun vs => guarded (tree vs) (dflt vs)) vs) = .go s₁ (callerStub tree vs) := by
      obtain ⟨heap, g, dr, tk, os⟩ := s₁
      rfl
    have hc : (callerStub (fun vs => guarded (tree vs) (dflt vs)) vs).calm = true := by rfl
    unfold schedN at hr
    rcases sstep_single (den := denote table) (prog := c.prog) (w := w) s₁ (callerStub (fun vs => guarded (tree vs) (dflt vs)) vs) hc hz₁ with h | h
    · rw [h, hst] at hr
      exact hr
    · rw [hst] at h
      cases h

theorem unguard {c : ClaimW} {tree dflt : List Value → Sem Fin} {defs keeps : List Str} {writes : Bool} (H : c.HoldsOpenBy (callerStub fun vs => guarded (tree vs) (dflt vs)) defs keeps writes) : c.HoldsOpenBy (callerStub tree) defs keeps writes := by
  obtain ⟨a, b, H⟩ := H
  refine ⟨a, b, fun w => ⟨(H w).1, fun s hs => ?_⟩⟩
  obtain ⟨s₀, h5, h6, s₁, hT, h7, h8, h9, h10⟩ := (H w).2 s hs
  have A : AfterImport (opening c.prog) w s := hs
  have z : s₀.asleep := Shared.asleep_of_life (fence_lifeW h5) A.life
  exact ⟨s₀, h5, h6, s₁, hT, h7, h8, h9, callFrom_unguard (Shared.asleep_of_life hT.2.1 z) h10⟩

/-- what is asked of the law's call: the walk where no holder stands below, and that True would do -/
abbrev WalkG (q : Program) (loose : List Str) (XP : (Str → Option Value) → Heap → Prop) (YP : World → Heap → Prop) (r : RowW) (d : DefRec) (kwd : List (Str × Expr)) : Prop :=
  ∀ (w : World) (s₀ s₁ : Shared) (mg mb : Str → Option Value), Ground q loose r.records XP w s₀ mg mb s₁.heap → YP w s₁.heap → ∀ (a : Addr) (o : Obj) (pm cd doc dV kV : Value), s₁.heap.get? a = some o →
    o.data = .func { docDef d.name d.params d.body d.scope pm cd doc with defaults := dV, kwdefaults := kV } → s₁.heap.CodeRec cd d.name → Dflts mg s₁.heap d.params kwd dV kV → mg d.name = some (.ref a) → s₁.gens = #[] →
    ∀ (args : List WData) (vals : List Value) (as : List Addr), r.claim.pre args = true → WData.layableAll args = true → ReadsAllW r.records (classAt s₀.heap) s₁.heap vals args as → WellAll w.params s₁.heap vals args → (∀ a ∈ as, (a == sysModules) = false) →
      GoodWG r.claim (classAt s₀.heap) (ExcName.means s₀.heap) args s₁ (.ok (.ret (.bool true))) s₁ ∧
      wpG (model r.prog w) callerA (PySem.call (.ref a) vals) (fun v s' => GoodWG r.claim (classAt s₀.heap) (ExcName.means s₀.heap) args s₁ (.ok (.ret v)) s')
        (fun e s' => GoodWG r.claim (classAt s₀.heap) (ExcName.means s₀.heap) args s₁ (.error e) s') s₁

end Mine

/-! the head's own closing step, in a namespace of this file's -/
namespace Mine.PySem.W
theorem holds_open {r : OpenRow} {q : Program} {loose : List Str} {Xt : Shared → Bool} {XP : (Str → Option Value) → Heap → Prop} {α : Type} {Yf : Shared → α} {Ya : World → α} {YP : World → Heap → Prop} {d : DefRec} {kwd : List (Str × Expr)} {N : Nat}
    (left : LeftO r.prog q loose Xt Yf Ya N) (hY : ∀ w s, Yf s = Ya w → YP w s.heap) (hYk : ∀ w h h', YP w h → (∀ b o, h.get? b = some o → h'.get? b = some o) → YP w h')
    (hX : ∀ s, Xt s = true → XP (s.heap.nsMap mainGlobals) s.heap) (hXk : ∀ mg h h', XP mg h → (∀ b o, h.get? b = some o → h'.get? b = some o) → XP mg h')
    (hdef : defOf q r.name = some (d, kwd)) (hp : r.prog.theDef r.name = some (d.params, d.body, d.scope)) (hk : kwWritten? d.params.kwonlyargs d.params.kw_defaults = some kwd) (hRf : ∀ s, Xt s = true → RecFacts r.records s.heap) (hwr : (!r.writes || r.records.isEmpty) = true)
    (k1 : r.wellSaid = true) (ok : (chainsOk q && opensWell r.prog && (frees r.toRowW && r.within.isEmpty)) = true) (hb : r.prog.bare) (hw : r.toRowW.promised)
    (call : WalkG q loose XP YP r.toRowW d kwd) : r.Holds := by
  refine ⟨k1, hw, unguard (dflt := fun _ => ret (.bool true)) (open_anyG (r := r.toRowW) (run := fun f vs => guarded (PySem.call f vs) (pure (.bool true))) (tree := fun vs => guarded (do match ← nsGet mainNs r.name with
      | some f => do ret (← PySem.call f vs)
      | none => unsupported "claim.caller:no-such-global") (ret (.bool true))) left hY hYk hX hXk hRf hwr ok hb hw
    (fun vs w s mg f Q E hg hf h => guarded_map h (fun h' => wpG_bindA (wpAny_nsGet hg (by rw [hf]; exact wpG_bind (wpG_mono h' (fun _ _ x => wpG_pure x) fun _ _ x => x)))) fun Γ p h => ?_)
    (fun w s hg G n hn => ?_) fun w s₀ s₁ mg mb G Y args vs as hpre hlay L low => ?_)⟩
  · exact h
  · obtain rfl : n = r.name := by split at hn <;> simp_all
    exact pinned_of_view hg G hdef hp hk
  · obtain ⟨a, o, pm, cd, doc, dV, kV, h1, h2, h3, h4, h5⟩ := G.fn hdef
    obtain ⟨c1, c2⟩ := call w s₀ s₁ mg mb G Y a o pm cd doc dV kV h2 h3 h4 h5 (defOf_name hdef ▸ h1) L.gens args vs as hpre hlay L.reads L.well (L.low low)
    exact ⟨.ref a, h1, guarded_any c2 (wpAny_pure c1)⟩

end Mine.PySem.W

namespace Mine
open_top hd for PySem.Challenge.rw_nq0008_01
end Mine
end

/-! ## BF -/
section
open PySem PySem.W PyProof.Rows PySem.Calls
open PySem.Sem (wp)
set_option maxRecDepth 100000
set_option maxHeartbeats 8000000
namespace Mine
namespace FB
theorem ba_mro : mroOf (.type "bytearray") = pure [.type "bytearray", .type "object"] := by rw [mroOf_type]; kernel_rfl
theorem ba_lookup_new : typeLookup (.type "bytearray") "__new__" = pure (some (.builtin "bytearray.__new__")) := by rw [typeLookup_type, builtinLookup_eq_fast]; kernel_rfl
theorem ba_slot_init : Slot "bytearray" "__init__" "bytearray.__init__" :=
  .of (owner := "bytearray") (n := "__init__") (by rw [typeLookup_type, builtinLookup_eq_fast]; kernel_rfl) (by decide +kernel) (by decide +kernel) (by decide +kernel)
    (by first | exact .inl (by decide +kernel) | exact .inr (by decide +kernel)) (by rw [isSubtype_type]; kernel_rfl)
theorem ba_called : TypeCalled "bytearray" "bytearray.__new__" "bytearray.__init__" :=
  ⟨by decide +kernel, by decide +kernel, ⟨_, _, ba_mro⟩, madeBy_type ba_mro ba_lookup_new (by decide +kernel), by decide +kernel, by rw [isSubtype_type]; kernel_rfl, ba_slot_init⟩
theorem ba_typeCall (a : Value) : checkTypeCall "bytearray" ⟨[a], []⟩ = pure () := by kernel_rfl
theorem ba_newCall (a : Value) : checkBuiltinCall "bytearray.__new__" ⟨[.type "bytearray", a], []⟩ = pure () := by kernel_rfl
theorem ba_plain_new : plainId "bytearray.__new__" = true := by decide +kernel
theorem ba_plain_init : plainId "bytearray.__init__" = true := by decide +kernel
theorem ba_entry_new : entryFor table "bytearray.__new__" = some Builtin.«list.__new__» := entryFor_alias (id' := "list.__new__") (by kernel_rfl) rfl (by decide +kernel) (by kernel_rfl)
theorem ba_entry_init : entryFor table "bytearray.__init__" = some Builtin.«bytearray.__init__» := by first | exact entryFor_of_fast (by kernel_rfl) | exact entryFor_of_tree (by kernel_rfl)
theorem ba_owner : ("bytearray.__new__".splitOn ".__new__").headD "" = "bytearray" := by simp +decide [String.splitOn, String.splitOnAux]
theorem ba_sub : isSubtype (.type "bytearray") (.type "bytearray") = pure true := by rw [isSubtype_type]; kernel_rfl
theorem ba_args_init (a b : Value) : argsOk "bytearray.__init__" ⟨[a, b], []⟩ := by unfold argsOk; kernel_rfl
end FB

section
variable {prog : Program} {w : World} {A : Around} {E : Value → Shared → Prop} {s : Shared}
theorem code_ba_new (a : Value) {Q₁ : Value → Shared → Prop}
    (h : Q₁ (.ref s.heap.objs.size) { s with heap := s.heap.push { cls := .type "bytearray", data := .bytearray #[] } }) :
    codeAny (model prog w) A (.call (.builtin "bytearray.__new__") ⟨[.type "bytearray", a], []⟩) (wants Q₁ E) s := by
  refine codeAny_of_tree ?_
  show wpAny _ A.in1 (do checkBuiltinCall "bytearray.__new__" ⟨[.type "bytearray", a], []⟩; again (.builtin "bytearray.__new__" ⟨[.type "bytearray", a], []⟩)) _ _ s
  refine wpAny_bind (wpAny_of_eq (FB.ba_newCall a) (wpAny_pure ⟨plainId_quiet FB.ba_plain_new _, codeAny_builtin_stack FB.ba_entry_new rfl fun p st => ?_⟩))
  rw [Around.under_plainId FB.ba_plain_new _]
  have hsub := FB.ba_sub
  have hown := FB.ba_owner
  obtain ⟨hp, g, d, tk, os⟩ := s
  simp only [hown]
  wp_walk
  exact h

end
end Mine
end

/-! ## Bya -/
section
open PySem PySem.W PyProof.Rows PySem.Calls
open PySem.Sem (wp)
set_option maxRecDepth 100000
set_option maxHeartbeats 8000000
namespace Mine
namespace FB
theorem ba_release : typeLookup (.type "bytearray") "__release_buffer__" = pure (some (.builtin "bytearray.__release_buffer__")) := by rw [typeLookup_type, builtinLookup_eq_fast]; kernel_rfl
theorem ba_bind (v : Value) : Builtin.Bytes.bindOptional "bytearray.__init__" "bytearray" ["source", "encoding", "errors"] [v] [] = pure [some v, none, none] := by kernel_rfl
end FB
section
variable {α : Type} {M : Model} {A : Around} {E : Value → Shared → Prop} {s : Shared}
theorem gif_false {c : Bool} {a b : Sem α} {Q : α → Shared → Prop} (hc : c = false) (h : wpG M A b Q E s) : wpG M A (if c = true then a else b) Q E s := by
  subst hc
  exact h
theorem gif_true {c : Bool} {a b : Sem α} {Q : α → Shared → Prop} (hc : c = true) (h : wpG M A a Q E s) : wpG M A (if c = true then a else b) Q E s := by
  subst hc
  exact h
theorem gdec_false {c : Prop} [Decidable c] {a b : Sem α} {Q : α → Shared → Prop} (hc : ¬ c) (h : wpG M A b Q E s) : wpG M A (if c then a else b) Q E s := by
  rw [if_neg hc]
  exact h
theorem gdec_true {c : Prop} [Decidable c] {a b : Sem α} {Q : α → Shared → Prop} (hc : c) (h : wpG M A a Q E s) : wpG M A (if c then a else b) Q E s := by
  rw [if_pos hc]
  exact h
theorem ba_ownRelease {a : Addr} {Q : Bool → Shared → Prop} (hT : s.TypeIs (.ref a) "bytearray") (h : Q false s) : wpAny M A (Builtin.Bytes.ownRelease (.ref a)) Q E s := by
  unfold Builtin.Bytes.ownRelease Builtin.Bytes.slotIsOwn
  refine wpAny_bind (wpAny_bind (wpAny_specialOf hT FB.ba_release ?_))
  dsimp only
  refine bm_if_false (by decide +kernel) ?_
  have e : ("bytearray.__release_buffer__".dropRight ("__release_buffer__".length + 1)) = "bytearray" := by decide +kernel
  rw [e]
  refine wpAny_isInstance hT FB.ba_sub ?_
  exact wpAny_pure h
theorem ba_exported {a : Addr} {Q : Bool → Shared → Prop} (h : Q false s) : wpG M A (Builtin.Bytes.exported (.ref a)) Q E s := fun Γ p hΓ hn => by
  have hC : Clean ((Γ.code, p) :: Γ.below) := fun x hx => by
    rcases List.mem_cons.mp hx with rfl | hx
    · exact hn.1
    · exact hn.2 x hx
  have hq : ∀ b, b = false → Q b s := fun b hb => hb ▸ h
  show Q (((Γ.code, p) :: Γ.below).any _) s
  refine hq _ ?_
  rw [List.any_eq_false]
  intro x hx
  have hd := hC x hx
  obtain ⟨c, q⟩ := x
  split <;> simp_all [isDec]
end
section
variable {prog : Program} {w : World} {A : Around} {E : Value → Shared → Prop} {s : Shared}
theorem isDec_of {id : String} {args : Args} (h : (Builtin.Bytes.decodersThatHold ++ ["bytearray.__contains__", "bytearray.__mod__", "bytearray.__rmod__", "_struct.pack_into.held", "bytearray.find.held"]).contains id = false) : isDec (.builtin id args) = false := h
theorem codeG_builtin {R : Result → Shared → Prop} {id : String} {args : Args} {b : Builtin} (hd : isDec (.builtin id args) = false) (hb : entryFor table id = some b)
    (h : wpG (model prog w) (A.under (.builtin id args)) (b args)
      (fun fin s' => match fin with | .done f => R (.ok f) s' | .again c' => c'.quiet = true ∧ codeG (model prog w) A c' R s') (fun e s' => R (.error e) s') s) :
    codeG (model prog w) A (.builtin id args) R s := by
  refine codeG_of_tree hd ?_
  show wpG _ _ (match entryFor table id with | some b => b args | none => unsupported ((withoutEnding? id "#data").getD id)) _ _ s
  rw [hb]; exact h

/-- a bytearray written anew -/
theorem ba_write {a : Addr} {b : Array UInt8} {f : Array UInt8 → Array UInt8} {Q : Unit → Shared → Prop} (ho : s.heap.get? a = some { cls := .type "bytearray", data := .bytearray b }) (hz : (f b).size ≤ 16777216)
    (h : (s.heap.update a (Obj.mapBytearray f)).get? a = some { cls := .type "bytearray", data := .bytearray (f b) } → Q () { s with heap := s.heap.update a (Obj.mapBytearray f) }) : wpAny (model prog w) A (Builtin.Bytes.write (.ref a) f) Q E s := by
  show wpAny _ _ (updateBytearray a f) _ _ _
  unfold updateBytearray
  refine wpAny_bind (wpAny_load ho ?_)
  show wpAny _ _ (update a (Obj.mapBytearray f) >>= fun _ => lookBehind a) _ _ _
  refine wpAny_bind (wpAny_update ho ?_)
  have hS : (s.heap.update a (Obj.mapBytearray f)).get? a = some { cls := .type "bytearray", data := .bytearray (f b) } :=
    Heap.get?_update_self (Obj.mapBytearray f) ho rfl
  refine wpAny_lookBehind hS ?_ (h hS)
  show (if (f b).size > sizeLine then some "bytearray:memory" else none) = none
  rw [if_neg]
  rw [sizeLine_eq]
  omega

theorem ba_init {a : Addr} {n : Int} {t : Tok} {Q : Value → Shared → Prop} (h0 : 0 ≤ n) (h1 : n ≤ 16777216) (ho : s.heap.get? a = some { cls := .type "bytearray", data := .bytearray #[] })
    (hQ : ∀ h', (∀ b o, b ≠ a → s.heap.get? b = some o → h'.get? b = some o) → h'.get? a = some { cls := .type "bytearray", data := .bytearray (Array.replicate n.toNat 0) } → Q .none { s with heap := h' }) :
    wpG (model prog w) A (call (.builtin "bytearray.__init__") [.ref a, .int n t]) Q E s := by
  have hT : s.TypeIs (.ref a) "bytearray" := ⟨_, ho, rfl⟩
  refine wpG_call (codeG_of_tree rfl ?_)
  show wpG _ _ (do checkBuiltinCall "bytearray.__init__" ⟨[.ref a, .int n t], []⟩; again (.builtin "bytearray.__init__" ⟨[.ref a, .int n t], []⟩)) _ _ s
  refine wpG_bindA (FB.ba_slot_init.check _ _ _ _ _ _ _ _ hT (FB.ba_args_init _ _) (wpG_pure ⟨plainId_quiet FB.ba_plain_init _, codeG_builtin (isDec_of (by decide +kernel)) FB.ba_entry_init ?_⟩))
  rw [Around.under_plainId FB.ba_plain_init _]
  unfold Builtin.«bytearray.__init__»
  dsimp only
  refine wpG_bindA (ba_ownRelease hT ?_)
  refine gif_false rfl ?_
  refine wpG_bindA (wpAny_of_eq (FB.ba_bind _) ?_)
  dsimp only
  refine wpG_bindA (wpAny_of_eq (a := ()) rfl ?_)
  refine wpG_bindA (wpAny_of_eq (a := ()) rfl ?_)
  refine wpG_bind ?_
  unfold orM
  refine wpG_bind (ba_exported ?_)
  show wpG _ _ (do let k ← Builtin.Bytes.exportsOf (.ref a); pure (decide (k > 0))) _ _ _
  refine wpG_bindA ?_
  unfold Builtin.Bytes.exportsOf
  refine wpAny_bind (wpAny_load ho ?_)
  refine wpAny_pure (wpG_pure ?_)
  refine gif_false rfl ?_
  refine wpG_bindA (ba_write ho (Nat.zero_le _) fun ho₁ => ?_)
  refine wpG_bindA (wpAny_of_eq (a := none) rfl ?_)
  refine gif_false rfl ?_
  refine wpG_bindA (wpAny_of_eq (a := ()) rfl ?_)
  refine wpG_bindA (wpAny_specialOf (T := "int") (typeIs_int _ _ _) F.slot_int_index.lookup ?_)
  refine gif_true rfl ?_
  refine wpG_bindA (wpAny_of_eq (a := .ok n) rfl ?_)
  dsimp only
  refine gif_false (by simp [Builtin.Bytes.fitsIndex]; omega) ?_
  refine gdec_false (by omega) ?_
  refine gif_false (by simp; omega) ?_
  refine gif_false (KBy.tooLong_not (by omega)) ?_
  refine wpG_bindA (wpAny_rule ?_)
  have hk₁ : ∀ b o, b ≠ a → s.heap.get? b = some o → (s.heap.update a (Obj.mapBytearray fun _ => #[])).get? b = some o := fun b o hb e => (Heap.get?_update_other _ _ (Ne.symm hb)).trans e
  by_cases hn : n > 0
  · refine gdec_true hn ?_
    refine wpG_bindA (ba_write ho₁ (by rw [Array.size_replicate]; omega) fun ho₂ => ?_)
    exact wpG_pure (hQ _ (fun b o hb e => (Heap.get?_update_other _ _ (Ne.symm hb)).trans (hk₁ b o hb e)) ho₂)
  · refine gdec_false hn ?_
    have e0 : n = 0 := by omega
    subst e0
    exact wpG_pure (hQ _ hk₁ ho₁)

theorem call_bytearray {n : Int} {t : Tok} {Q : Value → Shared → Prop} (h0 : 0 ≤ n) (h1 : n ≤ 16777216)
    (hQ : ∀ h', (∀ b o, s.heap.get? b = some o → h'.get? b = some o) → h'.get? s.heap.objs.size = some { cls := .type "bytearray", data := .bytearray (Array.replicate n.toNat 0) } → Q (.ref s.heap.objs.size) { s with heap := h' }) :
    wpG (model prog w) A (call (.type "bytearray") [.int n t]) Q E s := by
  refine wpG_call (codeG_of_tree rfl ?_)
  show wpG _ _ (callAny (.type "bytearray") _) _ _ _
  refine wpG_pure ⟨Code.quiet_builtin _ (by decide +kernel), codeG_builtin (isDec_of (by decide +kernel)) F.entry_type_call ?_⟩
  rw [Around.under_plain (weight_type_call_type "bytearray" [.int n t] []) rfl]
  unfold Builtin.«type.__call__»
  dsimp only
  refine gif_false FB.ba_called.notType ?_
  refine gif_false FB.ba_called.canCreate ?_
  refine wpG_bindA (wpAny_of_eq (FB.ba_typeCall _) ?_)
  refine wpG_bindA (wpAny_of_eq FB.ba_mro ?_)
  refine gif_false rfl ?_
  refine wpG_bindA (wpAny_of_eq FB.ba_called.made ?_)
  dsimp only
  refine wpG_bindA (wpAny_pure ?_)
  refine wpG_bindA (wpAny_holding (wpAny_call (code_ba_new _ ?_)))
  have hob : (s.heap.push { cls := .type "bytearray", data := .bytearray #[] }).get? s.heap.objs.size = some { cls := .type "bytearray", data := .bytearray #[] } := Heap.get?_push_size _ rfl
  have hT : ({ s with heap := s.heap.push { cls := .type "bytearray", data := .bytearray #[] } } : Shared).TypeIs (.ref s.heap.objs.size) "bytearray" := ⟨_, hob, rfl⟩
  refine wpG_bindA (wpAny_isInstance hT FB.ba_sub ?_)
  refine gif_false rfl ?_
  refine wpG_bind (wpG_holding ?_)
  simp only [callSpecial?]
  refine wpG_bindA (wpAny_specialOf hT FB.ba_slot_init.lookup ?_)
  simp only [FB.ba_slot_init.bind]
  refine wpG_holding (wpG_bindA (wpAny_pure (wpG_bind (wpG_mono (ba_init h0 h1 hob fun h' hk hn => ?_) (fun _ _ x => x) fun _ _ x => x))))
  refine wpG_pure ?_
  dsimp only
  refine gif_false (by decide) ?_
  refine wpG_pure ?_
  refine hQ h' (fun b o e => hk b o (Nat.ne_of_lt (Heap.lt_size e)) (Heap.get?_push_of_some _ e)) hn
end
end Mine
end

/-! ## Byb -/
section
open PySem PySem.W PyProof.Rows PySem.Calls
open PySem.Sem (wp)
set_option maxRecDepth 100000
set_option maxHeartbeats 8000000
namespace Mine
namespace FB
theorem ba_slot_setitem : Slot "bytearray" "__setitem__" "bytearray.__setitem__" :=
  .of (owner := "bytearray") (n := "__setitem__") (by rw [typeLookup_type, builtinLookup_eq_fast]; kernel_rfl) (by decide +kernel) (by decide +kernel) (by decide +kernel)
    (by first | exact .inl (by decide +kernel) | exact .inr (by decide +kernel)) (by rw [isSubtype_type]; kernel_rfl)
theorem ba_entry_setitem : entryFor table "bytearray.__setitem__" = some Builtin.«bytearray.__setitem__» := by first | exact entryFor_of_fast (by kernel_rfl) | exact entryFor_of_tree (by kernel_rfl)
theorem ba_args_setitem (a b c : Value) : argsOk "bytearray.__setitem__" ⟨[a, b, c], []⟩ := by unfold argsOk; kernel_rfl
theorem ba_no_bytes : typeLookup (.type "bytearray") "__bytes__" = pure none := by rw [typeLookup_type, builtinLookup_eq_fast]; kernel_rfl
theorem ba_no_index : typeLookup (.type "bytearray") "__index__" = pure none := by rw [typeLookup_type, builtinLookup_eq_fast]; kernel_rfl
theorem ba_buffer : typeLookup (.type "bytearray") "__buffer__" = pure (some (.builtin "bytearray.__buffer__")) := by rw [typeLookup_type, builtinLookup_eq_fast]; kernel_rfl
end FB
section
variable {prog : Program} {w : World} {A : Around} {E : Value → Shared → Prop} {s : Shared}
theorem ba_payload {M : Model} {a : Addr} {b : Array UInt8} {Q : Array UInt8 → Shared → Prop} (ho : s.heap.get? a = some { cls := .type "bytearray", data := .bytearray b }) (h : Q b s) : wpAny M A (Builtin.Bytes.payload (.ref a)) Q E s := by
  unfold Builtin.Bytes.payload Builtin.Bytes.payload?
  refine wpAny_bind (wpAny_bind (wpAny_load ho ?_))
  exact wpAny_pure (wpAny_pure h)
theorem ba_setItem {a : Addr} {b : Array UInt8} {k v : Int} {t u : Tok} {Q : Unit → Shared → Prop} (ho : s.heap.get? a = some { cls := .type "bytearray", data := .bytearray b })
    (h0 : 0 ≤ k) (hn : k < b.size) (hz : b.size ≤ 16777216) (hv0 : 0 ≤ v) (hv1 : v < 256)
    (hQ : (s.heap.update a (Obj.mapBytearray (·.setIfInBounds k.toNat v.toNat.toUInt8))).get? a = some { cls := .type "bytearray", data := .bytearray (b.setIfInBounds k.toNat v.toNat.toUInt8) } → Q () { s with heap := s.heap.update a (Obj.mapBytearray (·.setIfInBounds k.toNat v.toNat.toUInt8)) }) :
    wpAny (model prog w) A (setItem (.ref a) (.int k t) (.int v u)) Q E s := by
  have hT : s.TypeIs (.ref a) "bytearray" := ⟨_, ho, rfl⟩
  unfold setItem
  try with_reducible refine wpAny_holding ?_
  first | refine wpAny_bind (wpAny_pure ?_) | skip
  refine wpAny_bind (wpAny_sequenceKey hT (by decide) ?_)
  refine wpAny_bind (wpAny_callSpecial?_slot (name := Str.ofString "__setitem__") hT FB.ba_slot_setitem
    (wpAny_call_entry FB.ba_slot_setitem hT FB.ba_entry_setitem ?_ (FB.ba_args_setitem _ _ _)))
  unfold Builtin.«bytearray.__setitem__»
  dsimp only
  refine bm_if_false rfl ?_
  refine wpAny_bind ?_
  unfold Builtin.Bytes.subscript?
  refine wpAny_bind (wpAny_specialOf (T := "int") (typeIs_int _ _ _) F.slot_int_index.lookup ?_)
  refine bm_if_false rfl ?_
  refine wpAny_bind (wpAny_of_eq (a := k) rfl ?_)
  refine bm_if_false (by simp [Builtin.Bytes.fitsIndex]; omega) ?_
  refine wpAny_pure ?_
  dsimp only
  refine wpAny_bind ?_
  unfold Builtin.Bytes.byteValue
  refine wpAny_bind (wpAny_of_eq (a := v) rfl ?_)
  refine bm_if_false (by simp only [Bool.or_eq_false_iff, decide_eq_false_iff_not]; omega) ?_
  refine wpAny_pure ?_
  refine wpAny_bind (ba_payload ho ?_)
  have e : seqIndex? k b.size = some k.toNat := by
    have h3 : k < (b.size : Int) := hn
    have h4 : ¬ k < 0 := by omega
    simp [seqIndex?, h4, h0, h3]
  rw [e]
  dsimp only
  refine wpAny_bind (ba_write ho (by rw [Array.size_setIfInBounds]; exact hz) fun ho₁ => ?_)
  exact wpAny_pure ⟨_, rfl, wpAny_pure (hQ ho₁)⟩

theorem ba_slotIsOwn {M : Model} {a : Addr} {Q : Bool → Shared → Prop} (hT : s.TypeIs (.ref a) "bytearray") (h : Q true s) : wpAny M A (Builtin.Bytes.slotIsOwn (.ref a) "__buffer__") Q E s := by
  unfold Builtin.Bytes.slotIsOwn
  refine wpAny_bind (wpAny_specialOf hT FB.ba_buffer ?_)
  dsimp only
  refine bm_if_false (by decide +kernel) ?_
  have e : ("bytearray.__buffer__".dropRight ("__buffer__".length + 1)) = "bytearray" := by decide +kernel
  rw [e]
  exact wpAny_isInstance hT FB.ba_sub h
theorem ba_buffer? {M : Model} {id : String} {full : Bool} {a : Addr} {b : Array UInt8} {Q : Option (Array UInt8) → Shared → Prop} (ho : s.heap.get? a = some { cls := .type "bytearray", data := .bytearray b }) (h : Q (some b) s) : wpAny M A (Builtin.Bytes.buffer? id (.ref a) full) Q E s := by
  have hT : s.TypeIs (.ref a) "bytearray" := ⟨_, ho, rfl⟩
  unfold Builtin.Bytes.buffer?
  refine wpAny_bind (wpAny_specialOf hT FB.ba_buffer ?_)
  dsimp only
  refine wpAny_bind (ba_slotIsOwn hT ?_)
  refine bm_if_false rfl ?_
  refine wpAny_bind (wpAny_specialOf hT FB.ba_buffer ?_)
  refine wpAny_bind (ba_ownRelease hT ?_)
  refine bm_if_false rfl ?_
  exact wpAny_bind (ba_payload ho (wpAny_pure h))

theorem bytes_ba_new {a : Addr} {b : Array UInt8} {Q : Value → Shared → Prop} (ho : s.heap.get? a = some { cls := .type "bytearray", data := .bytearray b }) (hz : b.size ≤ 16777216)
    (hQ : Q (.bytes b s.toks) { s with toks := s.toks + 1 }) :
    codeAny (model prog w) A (.call (.builtin "bytes.__new__") ⟨[.type "bytes", .ref a], []⟩) (wants Q E) s := by
  refine codeAny_of_tree ?_
  show wpAny _ A.in1 (do checkBuiltinCall "bytes.__new__" ⟨[.type "bytes", .ref a], []⟩; again (.builtin "bytes.__new__" ⟨[.type "bytes", .ref a], []⟩)) _ _ s
  refine wpAny_bind (wpAny_of_eq (F.bm_newCall _) (wpAny_pure ⟨plainId_quiet F.bm_plain _, codeAny_builtin F.bm_entry ?_⟩))
  rw [Around.under_plainId F.bm_plain _]
  have hT : s.TypeIs (.ref a) "bytearray" := ⟨_, ho, rfl⟩
  unfold Builtin.«bytes.__new__»
  refine wpAny_bind (wpAny_of_eq (a := true) rfl ?_)
  refine bm_if_false rfl ?_
  refine wpAny_bind (wpAny_of_eq F.bm_sub ?_)
  refine bm_if_false rfl ?_
  refine wpAny_bind (wpAny_of_eq (F.bm_bind _) ?_)
  refine wpAny_bind (wpAny_of_eq (a := ()) rfl ?_)
  refine wpAny_bind (wpAny_of_eq (a := ()) rfl ?_)
  refine bm_if_false rfl ?_
  refine wpAny_bind (wpAny_specialOf hT FB.ba_no_bytes ?_)
  refine wpAny_bind (wpAny_bind ?_)
  show wpAny _ _ (load a >>= _) _ _ _
  refine wpAny_bind (wpAny_load ho ?_)
  refine wpAny_pure (wpAny_pure ?_)
  refine bm_if_false rfl ?_
  refine wpAny_bind (wpAny_specialOf hT FB.ba_no_index ?_)
  refine bm_if_true rfl ?_
  first
    | show wpAny _ _ (Builtin.Bytes.buffer? "bytes.__new__" (.ref a) true >>= _) _ _ _
    | (refine wpAny_bind ?_; show wpAny _ _ (Builtin.Bytes.buffer? "bytes.__new__" (.ref a) true >>= _) _ _ _)
  refine wpAny_bind (ba_buffer? ho ?_)
  refine wpAny_bind (wpAny_rule ?_)
  refine wpAny_bind (wpAny_mkBytes ?_ (by rw [sizeLine_eq]; exact hz))
  show wpAny _ _ (if (Value.type "bytes" == Value.type "bytes") = true then _ else _) _ _ _
  refine bm_if_true (by decide) ?_
  first
    | exact wpAny_pure hQ
    | exact wpAny_bind (wpAny_pure (wpAny_pure hQ))
    | exact wpAny_pure (wpAny_pure hQ)

theorem call_bytes_ba {a : Addr} {b : Array UInt8} {Q : Value → Shared → Prop} (ho : s.heap.get? a = some { cls := .type "bytearray", data := .bytearray b }) (hz : b.size ≤ 16777216)
    (hQ : Q (.bytes b s.toks) { s with toks := s.toks + 1 }) : wpAny (model prog w) A (call (.type "bytes") [.ref a]) Q E s := by
  refine callType_codes (Q₁ := fun obj s₁ => s₁.TypeIs obj "bytes" ∧ Q obj s₁) F.bm_called (F.bm_typeCall _) F.entry_object_init
    (bytes_ba_new ho hz ⟨PySem.W.typeIs_bytes _ _ _, hQ⟩) fun obj s₁ h₁ => ?_
  exact ⟨h₁.1, F.args_object_init_2 obj _, object_init_meets F.bm_called.init.lookup F.bm_called.made (by decide) prog w A.in1 _ s₁ ⟨h₁.1, rfl, h₁.2⟩⟩
end
end Mine
end

/-! ## GStm -/
section
open PySem PySem.W PyProof.Rows PySem.Calls
open PySem.Sem (wp)
set_option maxRecDepth 100000
set_option maxHeartbeats 8000000
namespace Mine
section
variable {M : Model} {A : Around} {E : Value → Shared → Prop} {s : Shared} {env : Env}
theorem wpG_execs_nil {Q : Flow → Shared → Prop} (h : Q .next s) : wpG M A (execs [] env) Q E s := .any (wpAny_execs_nil h)
theorem wpG_execs_cons {st : Stmt} {rest : List Stmt} {Q : Flow → Shared → Prop}
    (h : wpG M A (exec st env) (fun f s' => match f with | .next => wpG M A (execs rest env) Q E s' | f => Q f s') E s) :
    wpG M A (execs (st :: rest) env) Q E s := fun Γ p hΓ hn => by
  rw [execs_cons, Sem.wp_bind']
  refine Sem.wp_mono M Γ _ (fun f p' s' h' => ?_) (fun _ _ _ h' => h') _ _ (h Γ p hΓ hn)
  cases f <;> first | exact h' Γ p' hΓ hn | exact h'
theorem wpG_execs_any {st : Stmt} {rest : List Stmt} {Q : Flow → Shared → Prop}
    (h : wpAny M A (exec st env) (fun f s' => match f with | .next => wpG M A (execs rest env) Q E s' | f => Q f s') E s) :
    wpG M A (execs (st :: rest) env) Q E s := wpG_execs_cons (.any h)
theorem wpG_Assign_Name {x : Str} {pos' pos : Pos} {value : Expr} {Q : Flow → Shared → Prop}
    (h : wpG M A (eval value env) (fun v s₁ => wpG M A (storeName env x v) (fun _ => Q .next) E s₁) E s)
    (hs : swapsWith value (some (.Name x pos')) pos.line env = pure false := by rfl) :
    wpG M A (exec (.Assign [.Name x pos'] value pos) env) Q E s := fun Γ p hΓ hn => by
  simp only [exec_Assign_Name env x pos' value pos hs, Sem.wp_bind', Sem.wp_cmd_standAt, Sem.wp_bindName, Sem.wp_pure']
  exact Sem.wp_mono M Γ _ (fun v _ s₁ h₁ => h₁ Γ _ hΓ hn) (fun _ _ _ h' => h') _ _ (h Γ _ hΓ hn)
theorem wpG_If {test : Expr} {body orelse : List Stmt} {pos : Pos} {Q : Flow → Shared → Prop}
    (h : wpG M A (isTrue test env (eval test env))
      (fun b s₂ => if b then wpG M A (execs body env) Q E s₂ else wpG M A (execs orelse env) Q E s₂) E s) :
    wpG M A (exec (.If test body orelse pos) env) Q E s := fun Γ p hΓ hn => by
  simp only [exec_If, Sem.wp_bind', Sem.wp_cmd_standAt]
  refine Sem.wp_mono M Γ _ (fun b p₂ s₂ h₂ => ?_) (fun _ _ _ h' => h') _ _ (h Γ _ hΓ hn)
  cases b <;> exact h₂ Γ p₂ hΓ hn
theorem wpG_Return_some {e : Expr} {pos : Pos} {Q : Flow → Shared → Prop} (h : wpG M A (eval e env) (fun v => Q (.ret v)) E s) :
    wpG M A (exec (.Return (some e) pos) env) Q E s := fun Γ p hΓ hn => by
  simp only [exec_Return_some, Sem.wp_bind', Sem.wp_cmd_standAt, Sem.wp_pure']; exact h Γ _ hΓ hn
theorem wpG_keep {α : Type} {vs : List Value} {m : Sem α} {Q : α → Shared → Prop} (h : wpG M A m Q E s) : wpG M A (m.keep vs) Q E s :=
  fun Γ p hΓ hn => by rw [Sem.wp_keep]; exact h Γ p hΓ hn
theorem wpG_operate {vs : List Value} {m : Sem Value} {Q : Value → Shared → Prop} (h : wpG M A m Q E s) : wpG M A (operate vs m) Q E s :=
  fun Γ p hΓ hn => by rw [Sem.wp_operate]; exact h Γ p hΓ hn
theorem wpG_Call_Name {x : Str} {npos pos : Pos} {args : List Expr} {Q : Value → Shared → Prop}
    (h : wpAny M A (eval (.Name x npos) env) (fun f s₁ => wpG M A (callWith pos f [] (backTo pos (starEach args env)) []) Q E s₁) E s) :
    wpG M A (eval (.Call (.Name x npos) args [] pos) env) Q E s := by
  show wpG M A (do callWith pos (← eval (.Name x npos) env) [] (backTo pos (starEach args env)) (backToKw pos (keywordEach [] env))) Q E s
  exact wpG_bindA h
theorem callWithG_of {f : Value} {first : List Value} {pos : Pos} {Q : Value → Shared → Prop} {P : Heap → Prop} {args : List (Bool × Sem Value)} {keywords : List (Option Str × Sem Value)} (hplain : (args.any (·.1) || keywords.any (·.1.isNone)) = false)
    (hk : ∀ h, P h → ∃ k, (k = Keeper.frame ∨ k = Keeper.machine ∨ k = Keeper.boundFrame) ∧ Looks M h (keeperOf f) k)
    (h : wpAny M A (evalArgs f true args keywords) (fun a s₁ => P s₁.heap ∧ wpG M A (call f (first ++ a.pos) a.kw) Q E s₁) E s) : wpG M A (callWith pos f first args keywords) Q E s := by
  unfold callWith
  refine wpG_bindA (wpAny_holding (wpAny_mono h (fun a s₁ h₁ => wpG_bindA (wpAny_standAt ?_)) fun _ _ x => x))
  obtain ⟨k, hk', L⟩ := hk _ h₁.1
  simp only [hplain]
  refine wpG_bindA (L.here ?_)
  have tail : ∀ {t : Sem Value}, wpG M A t Q E s₁ → wpG M A (t >>= fun r => holding [r] point >>= fun _ => pure r) Q E s₁ :=
    fun ht => wpG_bind (wpG_mono ht (fun r s₂ hr => .any (wpAny_bind (wpAny_holding (wpAny_point (wpAny_pure hr))))) fun _ _ x => x)
  have marked (mk : Value) : wpG M A (callMarked mk f (first ++ a.pos) a.kw) Q E s₁ := by unfold callMarked; exact wpG_keep h₁.2
  rcases hk' with rfl | rfl | rfl <;> dsimp only <;> first | exact tail h₁.2 | (split <;> first | exact tail h₁.2 | exact tail (marked _))
theorem callWithG_K {K : Frag} {h₀ : Heap} {f : Value} {first : List Value} {pos : Pos} {Q : Value → Shared → Prop} {e : Expr} {rest : List Expr} (_X : K.In h₀) (hk : keepIn K f = true) (h : wpAny M A (spliced (backTo pos (starEach (e :: rest) env))) (fun vs s₁ => K.In s₁.heap ∧ wpG M A (call f (first ++ vs)) Q E s₁) E s)
    (he : starEach (e :: rest) env = (false, eval e env) :: starEach rest env := by rfl) (hplain : (backTo pos (starEach rest env)).any (·.1) = false := by rfl) :
    wpG M A (callWith pos f first (backTo pos (starEach (e :: rest) env)) []) Q E s := by
  rw [he] at h ⊢
  exact callWithG_of (by show ((false || (backTo pos (starEach rest env)).any (·.1)) || false) = false; rw [hplain]; rfl) (keeps_K hk) (evalArgs_plain h)
theorem callWithG_type {pos : Pos} {T : String} {first : List Value} {Q : Value → Shared → Prop} {e : Expr} {rest : List Expr}
    (h : wpAny M A (spliced (backTo pos (starEach (e :: rest) env))) (fun vs s₁ => wpG M A (call (.type T) (first ++ vs)) Q E s₁) E s)
    (he : starEach (e :: rest) env = (false, eval e env) :: starEach rest env := by rfl) (hplain : (backTo pos (starEach rest env)).any (·.1) = false := by rfl) :
    wpG M A (callWith pos (.type T) first (backTo pos (starEach (e :: rest) env)) []) Q E s := by
  rw [he] at h ⊢
  refine callWithG_of (P := fun _ => True) (by show ((false || (backTo pos (starEach rest env)).any (·.1)) || false) = false; rw [hplain]; rfl) (fun h _ => ⟨.machine, .inr (.inl rfl), Looks.of_pure rfl⟩) (evalArgs_plain (wpAny_mono h (fun vs s₁ x => ⟨trivial, x⟩) fun _ _ x => x))
/-- tests -/
theorem isTrueG_not {x : Expr} {pos : Pos} {whole : Sem Value} {Q : Bool → Shared → Prop} (h : wpG M A (isTrue x env (eval x env)) (fun b s' => Q (!b) s') E s) : wpG M A (isTrue (.UnaryOp .Not x pos) env whole) Q E s := by
  rw [show isTrue (.UnaryOp .Not x pos) env whole = (do return !(← isTrue x env (eval x env))) from by rw [PySem.isTrue]]
  exact wpG_bind (wpG_mono h (fun _ _ x => wpG_pure x) fun _ _ x => x)
theorem isTrueG_or {values : List Expr} {pos : Pos} {whole : Sem Value} {Q : Bool → Shared → Prop} (h : wpG M A (allTrue .Or values env) Q E s) : wpG M A (isTrue (.BoolOp .Or values pos) env whole) Q E s := by
  rw [show isTrue (.BoolOp .Or values pos) env whole = allTrue .Or values env from by rw [PySem.isTrue]]
  exact h
theorem allTrueG_nil {Q : Bool → Shared → Prop} (h : Q false s) : wpG M A (allTrue .Or [] env) Q E s := by
  rw [show allTrue .Or [] env = pure false from by rw [allTrue]; rfl]
  exact wpG_pure h
theorem allTrueG_cons {x : Expr} {rest : List Expr} {Q : Bool → Shared → Prop} (h : wpG M A (isTrue x env (eval x env)) (fun b s' => if b then Q true s' else wpG M A (allTrue .Or rest env) Q E s') E s) : wpG M A (allTrue .Or (x :: rest) env) Q E s := by
  rw [allTrue]
  refine wpG_bind (wpG_mono h (fun b s' x => ?_) fun _ _ x => x)
  cases b
  · exact x
  · exact wpG_pure x
theorem isTrueG_Compare1 {left r : Expr} {op : CmpOp} {pos : Pos} {whole : Sem Value} {Q : Bool → Shared → Prop}
    (h : wpG M A (eval left env) (fun l s₁ => wpAny M A (testChain pos l [op] (markedEach [op] [r] (evalEach [r] env))) Q E s₁) E s) : wpG M A (isTrue (.Compare left [op] [r] pos) env whole) Q E s := by
  rw [PySem.isTrue]
  exact wpG_bind (wpG_mono h (fun _ _ x => .any x) fun _ _ x => x)
theorem isTrueG_Call {f : Expr} {args : List Expr} {pos : Pos} {kws : List Keyword} {Q : Bool → Shared → Prop}
    (h : wpG M A (eval (.Call f args kws pos) env) (fun v s₁ => wpAny M A (truthy v) Q E s₁) E s) : wpG M A (isTrue (.Call f args kws pos) env (eval (.Call f args kws pos) env)) Q E s := by
  rw [PySem.isTrue]
  · exact wpG_bind (wpG_mono h (fun v s₁ x => .any (wpAny_bind (wpAny_standAt (wpAny_holding x)))) fun _ _ x => x)
  all_goals (intros; rename_i e; cases e)
theorem evalG_Compare1 {left r : Expr} {op : CmpOp} {pos : Pos} {Q : Value → Shared → Prop}
    (h : wpG M A (eval left env) (fun l s₁ => wpAny M A (compareChain pos l [op] (markedEach [op] [r] (evalEach [r] env))) Q E s₁) E s) : wpG M A (eval (.Compare left [op] [r] pos) env) Q E s := by
  rw [eval]
  exact wpG_bind (wpG_mono h (fun _ _ x => .any x) fun _ _ x => x)
end
end Mine
end

/-! ## GCmp -/
section
open PySem PySem.W PyProof.Rows PySem.Calls
open PySem.Sem (wp)
set_option maxRecDepth 100000
set_option maxHeartbeats 8000000
namespace Mine
section
variable {M : Model} {A : Around} {E : Value → Shared → Prop} {s : Shared} {env : Env}
theorem isTrueG_Cmp {l r : Expr} {op : CmpOp} {pos : Pos} {whole : Sem Value} {Q : Bool → Shared → Prop}
    (h : wpG M A (eval l env) (fun a s₁ => wpAny M A (eval r env) (fun b s₂ => wpAny M A (compareOp op a b)
      (fun c s₃ => wpG M A (truthy c) Q E s₃) E s₂) E s₁) E s)
    (hm : behindInMarks op r = false := by with_unfolding_all rfl) : wpG M A (isTrue (.Compare l [op] [r] pos) env whole) Q E s := fun Γ p hΓ hn => by
  simp only [isTrue_Compare1, markedBehindIn_of_false hm, Sem.wp_bind', Sem.wp_holding, Sem.wp_cmd_standAt, Sem.wp_operate]
  exact Sem.wp_mono M Γ _ (fun a p₁ s₁ h₁ => Sem.wp_mono M Γ _ (fun b _ s₂ h₂ => Sem.wp_mono M Γ _ (fun c p₃ s₃ h₃ => h₃ Γ p₃ hΓ hn)
    (fun _ _ _ h' => h') _ _ (h₂ Γ _ hΓ)) (fun _ _ _ h' => h') _ _ (h₁ Γ p₁ hΓ)) (fun _ _ _ h' => h') _ _ (h Γ p hΓ hn)
theorem evalG_Cmp {l r : Expr} {op : CmpOp} {pos : Pos} {Q : Value → Shared → Prop}
    (h : wpG M A (eval l env) (fun a s₁ => wpAny M A (eval r env) (fun b s₂ => wpAny M A (compareOp op a b) Q E s₂) E s₁) E s)
    (hm : behindInMarks op r = false := by with_unfolding_all rfl) : wpG M A (eval (.Compare l [op] [r] pos) env) Q E s := fun Γ p hΓ hn => by
  simp only [eval_Compare1, markedBehindIn_of_false hm, Sem.wp_bind', Sem.wp_holding, Sem.wp_cmd_standAt, Sem.wp_operate]
  exact Sem.wp_mono M Γ _ (fun a p₁ s₁ h₁ => Sem.wp_mono M Γ _ (fun b _ s₂ h₂ => h₂ Γ _ hΓ) (fun _ _ _ h' => h') _ _ (h₁ Γ p₁ hΓ)) (fun _ _ _ h' => h') _ _ (h Γ p hΓ hn)
end
end Mine
end

/-! ## Rev -/
section
open PySem PySem.W PyProof.Rows PySem.Calls PyProof.V PySem.Spec
set_option maxRecDepth 100000
set_option maxHeartbeats 8000000
namespace Mine
open PySem.W.KBy in
theorem meets_rev (b : Array UInt8) (t : Tok) (a : Addr) {u : Tok} (hrev : Builtin.Bytes.sliced b ((b.size : Int) - 1) (-1) (-1) = b.reverse) :
    Meets (Builtin.«bytes.__getitem__» ⟨[.bytes b t, .ref a], []⟩) (fun _ R s => s.heap.IsSliceOf a .none .none (.int (-1) u) ∧ b.size ≤ sizeLine ∧ ∀ t' k, R (.ok (.ret (.bytes b.reverse t'))) { s with toks := k }) := by
  refine .of_wp fun prog w A R s hS => ?_
  obtain ⟨⟨o, ho, hc, hd⟩, hsz, h⟩ := hS
  have hT : s.TypeIs (.ref a) "slice" := ⟨o, ho, hc⟩
  show wpAny _ _ (Builtin.Bytes.payload (.bytes b t) >>= fun r => _) _ _ s
  refine wpAny_bind (wpAny_of_eq (a := b) rfl ?_)
  show wpAny _ _ (Builtin.Bytes.subscript? (.ref a) >>= fun r => _) _ _ s
  refine wpAny_bind ?_
  unfold Builtin.Bytes.subscript?
  refine wpAny_bind (wpAny_specialOf hT slice_no_index (wpAny_pure ?_))
  refine wpAny_bind (wpAny_typeOf hT ?_)
  show wpAny _ _ (Builtin.Bytes.sliceParts (.ref a) >>= fun r => _) _ _ s
  refine wpAny_bind ?_
  unfold Builtin.Bytes.sliceParts
  refine wpAny_bind (wpAny_field (x := .int (-1) u) ho hd rfl ?_)
  kby_int
  refine wpAny_ite (KBy.ite_no (show ¬ ((rawInt (-1) == rawInt 0) = true) from Bool.false_ne_true) ?_)
  refine wpAny_bind (wpAny_field (x := .none) ho hd rfl ?_)
  kby_none
  refine wpAny_bind (wpAny_field (x := .none) ho hd rfl ?_)
  kby_none
  refine wpAny_pure ?_
  have go : wpAny (model prog w) A.in1 (sliceIndices (rawPart none) (rawPart none) (rawPart (some (-1))) b.size) (fun r s' => r = sliceBounds none none (some (-1)) b.size ∧ s' = s) (fun _ _ => False) s :=
    wpAny_of_eq (sliceIndices_raw none none (some (-1)) b.size (by decide)) ⟨rfl, rfl⟩
  refine wpAny_bind (wpAny_mono go (fun r s' hr => ?_) fun _ _ e => e.elim)
  obtain ⟨hr1, hr2⟩ := hr
  subst hr1 hr2
  have hb : sliceBounds none none (some (-1)) b.size = ((b.size : Int) - 1, -1, -1) := rfl
  rw [hb]
  dsimp only
  refine wpAny_ite (KBy.ite_no (by simp) ?_)
  rw [hrev]
  exact wpAny_bind (wpAny_mkBytes (wpAny_pure ⟨_, rfl, h _ _⟩) (by rw [Array.size_reverse]; exact hsz))
theorem sliced_rev (b : Array UInt8) : Builtin.Bytes.sliced b ((b.size : Int) - 1) (-1) (-1) = b.reverse := by
  unfold Builtin.Bytes.sliced
  rw [krv_sliceRange, krv_range, List.filterMap_reverse, krv_all]
  obtain ⟨l⟩ := b
  exact List.reverse_toArray.symm
theorem rev_K {prog : Program} {w : World} {A : Around} {E : Value → Shared → Prop} {s : Shared} {value slice : PySem.Expr} {b : Array UInt8} {t v : Tok} {h₀ : Heap} {L : Addr} {m : PySem.Str → Option Value} {news : List (Addr × Obj)} {Q : Value → Shared → Prop}
    (hF : Fr h₀ L s.heap m) (hN : News h₀ L s.heap news) (hz : b.size ≤ 16777216)
    (h : ∀ h' t' k, Fr h₀ L h' m → News h₀ L h' news → Q (.bytes b.reverse t') { s with heap := h', toks := k })
    (hs : subscripted slice false (.bytes b t) (.ref s.heap.objs.size) = operate [.ref s.heap.objs.size, .bytes b t] (getItem (.bytes b t) (.ref s.heap.objs.size)) := by with_unfolding_all rfl)
    (ht : ∀ r, letTemporaryGo value (.bytes b t) r = pure () := by intro _; with_unfolding_all rfl) :
    wpAny (model prog w) A (subscriptTail value slice (.bytes b t) (.ref s.heap.objs.size)) Q E { s with heap := s.heap.push { cls := .type "slice", data := .fields #[.none, .none, .int (-1) v] } } :=
  tail_of_ItemOn ⟨"bytes", _, FB.slot_bytes_getitem.lookup, typeIs_bytes _ _ _, getItem_meets (typeIs_bytes _ _ _) (by decide) FB.slot_bytes_getitem FB.entry_bytes_getitem (FB.args_bytes_getitem_2 _ _) (meets_rev b t _ (sliced_rev b))
    ⟨Heap.IsSliceOf.new _ _ _ _, by rw [sizeLine_eq]; exact hz, fun t' k => h _ _ _ (hF.push _) (News.pushKeep hN _)⟩⟩ hs ht
end Mine
end

/-! ## TryC -/
section
open PySem PySem.W PyProof.Rows PySem.Calls PyProof.V PySem.Spec
set_option maxRecDepth 100000
set_option maxHeartbeats 8000000
namespace Mine
section
variable {prog : Program} {w : World} {A A₀ : Around} {s : Shared} {K : Frag} {L : Addr} {h₀ base : Heap} {m mg mb : Str → Option Value} {news : List (Addr × Obj)} {p : Program} {loose : List Str} {mean : ExcName → Option Value}
  {env : Env} {R : Result → Shared → Prop} {name qual : Str} {params : Arguments} {body : List Stmt} {scope : Scope} {dV kV doc pm cdv ct oc : Value} {an od : Option Addr} {osl : Array (Option Value)} {f : Addr} {args : Args} {binds : List (Str × Value)}
/-- a def that may catch what its callee raises, called from a frame with cells: the frame may come back with other slots -/
theorem code_tryC (B : Below A₀ base [] h₀) (F : Fr h₀ L s.heap m) (X₀ : K.In h₀) (N : News h₀ L s.heap news) (T : Top p loose mean mg mb h₀) (hA : A.frames = some [env]) (hf : env.frame = some L) (hke : env.scope.kind = .function)
    (ho : K.lookup f = some ⟨oc, od, .func (fnOf name qual params body scope dV kV doc pm an cdv ct), osl⟩) (hcd : codeIn K cdv qual = true) (hroom : A.depth < recursionLimit)
    (hbind : BindsTo s (fnOf name qual params body scope dV kV doc pm an cdv ct) args binds) (hloc : ∀ y ∈ binds, scope.names.lookup y.1 = some .local)
    (h : ∀ g L' h₁, Fr h₀ L g m → Fr g L' h₁ (fun y => binds.reverse.lookup y) → News g L' h₁ news → Below A base [env] g → K.In g → Top p loose mean mg mb g → KtsDicts ([env].filterMap (·.frame)) g →
      wpAny (model prog w) (A.deeper (envOf qual scope L' f cdv)) (execs body (envOf qual scope L' f cdv))
        (fun fl s' => LeaveS0 ([env].filterMap (·.frame)) h₀ L m g R (match fl with | .ret v => v | _ => .none) s')
        (fun e s' => wpAny (model prog w) (A.deeper (envOf qual scope L' f cdv)) (leaving (envOf qual scope L' f cdv) e) (fun _ s'' => R (.error e) s'') (fun e' s'' => R (.error e') s'') s')
        { s with heap := h₁, toks := s.toks + binds.length })
    (hco : scope.isCoroutine = false) (hgen : scope.isGenerator = false) (hk : scope.kind = .function)
    (hcell : ∀ x ∈ scope.names, x.2 ≠ .cell) : codeAny (model prog w) A (.call (.ref f) args) R s := by
  obtain ⟨FG, BG, st, _⟩ := groundX (R := R) B F N hA hf hke
  generalize hgg : hideAll s.heap (news.map (·.1)) = g at FG BG st
  have hXs := X₀.keeps F.keep
  refine codeAny_call_def (fd := fnOf name qual params body scope dV kV doc pm an cdv ct) (body := body) (binds := binds) hroom (hXs _ _ ho) rfl (T.nolimit.keeps F.keep) (codeRec_of hXs hcd) rfl hbind hcell hloc (fun h₁ hns hk₁ => ?_) hco hgen hk
  obtain ⟨oL, es, ep, hLg, hLd, hLk, hLf⟩ := FG.ns
  have only : ∀ b, b ∈ [env].filterMap (·.frame) → b = L := fun b hb => by
    obtain ⟨env', he, hf'⟩ := List.mem_filterMap.mp hb
    rw [List.mem_singleton.mp he, hf] at hf'
    exact (Option.some.inj hf').symm
  have F₁ : Fr g s.heap.objs.size h₁ (fun y => binds.reverse.lookup y) := ⟨hns, fun b o e => hk₁ b o (of_hideAll _ (hgg ▸ e)), by rw [← hgg]; exact Nat.le_of_eq (hideAll_size _ _)⟩
  have N₁ : News g s.heap.objs.size h₁ news := fun q hq => ⟨hk₁ _ _ (N q hq).1, Nat.ne_of_lt (Heap.lt_size (N q hq).1), by rw [← hgg]; exact hideAll_none _ (List.mem_map_of_mem hq)⟩
  refine wpAny_mono (h g s.heap.objs.size h₁ FG F₁ N₁ BG (X₀.keeps st) (T.keeps st) fun b hb => ⟨oL, es, ep, only b hb ▸ hLg, hLd⟩) (fun fl s' hl => ?_) fun _ _ y => y
  obtain ⟨g', L', m', news', T', F', N', k⟩ := hl
  obtain ⟨sl, hs⟩ := T'.up hLg
  have hL₀ : h₀.get? L = none := kts_self F
  refine k ⟨⟨_, es, ep, F'.keep _ _ hs, hLd, hLk, hLf⟩, fun b o e => F'.keep b o (T'.other b o (st b o e) fun q => ?_), F.above⟩ fun q hq => ⟨(N' q hq).1, fun e => ?_, ?_⟩
  · rw [only b q, hL₀] at e
    cases e
  · have := (N' q hq).2.2
    rw [e, hs] at this
    cases this
  · cases e : h₀.get? q.1 with
    | none => rfl
    | some o =>
      obtain ⟨sl', hs'⟩ := T'.up (st _ _ e)
      have := (N' q hq).2.2
      rw [hs'] at this
      cases this
end
end Mine
end

/-! ## Swap0 -/
section
open PySem PySem.W PyProof.Rows PySem.Calls PyProof.V PySem.Spec
open PySem.Sem (wp)
set_option maxRecDepth 100000
set_option maxHeartbeats 8000000
namespace Mine
/-- a closed box: the walk stops at it -/
structure Box (P : Prop) : Prop where
  out : P
abbrev baObj (b : Array UInt8) : Obj := { cls := .type "bytearray", data := .bytearray b }
section
variable {prog : Program} {w : World} {A : Around} {E : Value → Shared → Prop} {s : Shared} {env : Env} {h₀ : Heap} {x : Str} {body : List Stmt} {Q : Flow → Shared → Prop}
theorem iter_rangeInv {r : Addr} {a₀ b₀ c : Int} {t₀ u₀ v₀ : Tok} {n : Nat} {m₀ : Str → Option Value} {news : List (Addr × Obj)} (J : Nat → (Str → Option Value) → List (Addr × Obj) → Prop)
    (hh : A.handled = none) (hr : IsRange s.heap r a₀ b₀ c t₀ u₀ v₀) (hsmall : Builtin.Range.small a₀ b₀ c = true) (hn : Builtin.Range.rangeSize a₀ b₀ c = (n : Int)) (F : Fr h₀ env.locals s.heap m₀) (N : News h₀ env.locals s.heap news) (hj : J 0 m₀ news)
    (turn : ∀ (i : Nat) t m₁ news₁ h tk own, i < n → news₁.map (·.1) = news.map (·.1) → OwnOff own (news.map (·.1)) → J i m₁ news₁ → Fr h₀ env.locals h (fun y => if y = x then some (.int (a₀ + (i : Int) * c) t) else m₁ y) → News h₀ env.locals h (news₁ ++ own) →
      wpAny (model prog w) A (execs body env) (InvPostN h₀ env.locals (J (i + 1)) own (news.map (·.1)) { s with heap := h, toks := tk } Q) E { s with heap := h, toks := tk })
    (done : ∀ m₁ news₁ h tk, J n m₁ news₁ → Fr h₀ env.locals h m₁ → News h₀ env.locals h news₁ → Q .next { s with heap := h, toks := tk }) :
    wpAny (model prog w) A (pyIter (.ref r)) (fun it s₂ => LoopAtV prog w A h₀ env x body Q E it s₂) E s := by
  refine wpAny_pyIter_range hr hsmall ?_
  have W : Walks prog w A s.heap.objs.size [s.heap.objs.size] [s.heap.objs.size] n (fun i v => i < n ∧ ∃ t, v = .int (a₀ + i * c) t)
      (fun i h => IsRangeIter h s.heap.objs.size (a₀ + (i : Nat) * c) ((n : Int) - (i : Nat)) c) := (Walks.range hh _ a₀ c n).bound
  refine loop_invN J W ?_ ?_ ?_ ?_ (by show IsRangeIter _ _ _ _ _; rw [hn]; simpa using Heap.get?_push_size _ rfl) (F.push _) (fun p hp => ⟨Heap.get?_push_of_some _ (N p hp).1, (N p hp).2⟩) hj ?_ ?_
  · intro hm
    exact absurd F.ns.lt ((List.mem_singleton.mp hm) ▸ Nat.lt_irrefl _)
  · intro b hb
    rw [List.mem_singleton.mp hb]
    exact next_is_new F
  · intro p hp hI
    exact absurd (Heap.lt_size (N p hp).1) ((List.mem_singleton.mp hI) ▸ Nat.lt_irrefl _)
  · intro p hp hI
    exact absurd (Heap.lt_size (N p hp).1) ((List.mem_singleton.mp hI) ▸ Nat.lt_irrefl _)
  · rintro i v m₁ news₁ h tk own hi ⟨_, t, rfl⟩ hadr hoff hJ F₁ N₁
    exact turn i t m₁ news₁ h tk own hi hadr hoff hJ F₁ N₁
  · intro m₁ news₁ h tk hJ F₁ N₁
    exact done m₁ news₁ h tk hJ F₁ N₁
theorem frnews_update {L a : Addr} {h : Heap} {m : Str → Option Value} {f : Obj → Obj} {o o' : Obj} {news rest : List (Addr × Obj)} (F : Fr h₀ L h m) (N : News h₀ L h news) (hm : (a, o) ∈ news) (hr : ∀ p ∈ rest, p ∈ news) (hne : ∀ p ∈ rest, p.1 ≠ a) (ho' : (h.update a f).get? a = some o') :
    Fr h₀ L (h.update a f) m ∧ News h₀ L (h.update a f) ((a, o') :: rest) := by
  have hL : a ≠ L := (N _ hm).2.1
  have hb : h₀.get? a = none := (N _ hm).2.2
  constructor
  · obtain ⟨oL, es, ep, hL', r⟩ := F.ns
    refine ⟨⟨oL, es, ep, (Heap.get?_update_other _ _ hL).trans hL', r⟩, fun b o e => ?_, F.above⟩
    refine (Heap.get?_update_other _ _ (fun q => ?_)).trans (F.keep b o e)
    subst q
    rw [hb] at e
    cases e
  · intro p hp
    rcases List.mem_cons.mp hp with rfl | hp
    · exact ⟨ho', hL, hb⟩
    · have hN := N p (hr p hp)
      exact ⟨(Heap.get?_update_other _ _ (Ne.symm (hne p hp))).trans hN.1, hN.2⟩
theorem bytearray_K {L : Addr} {m : Str → Option Value} {news : List (Addr × Obj)} {n : Int} {t : Tok} {Q : Value → Shared → Prop} (F : Fr h₀ L s.heap m) (N : News h₀ L s.heap news) (h0 : 0 ≤ n) (h1 : n ≤ 16777216)
    (h : ∀ ba h', Fr h₀ L h' m → News h₀ L h' ((ba, baObj (Array.replicate n.toNat 0)) :: news) → (∀ q ∈ news, q.1 ≠ ba) → Q (.ref ba) { s with heap := h' }) :
    wpG (model prog w) A (call (.type "bytearray") [.int n t]) Q E s := by
  refine call_bytearray h0 h1 fun h₂ hk₂ hb₂ => h s.heap.objs.size h₂ (F.keeps hk₂) ?_ fun q hq => Nat.ne_of_lt (Heap.lt_size (N q hq).1)
  intro q hq
  rcases List.mem_cons.mp hq with rfl | hq
  · exact ⟨hb₂, Nat.ne_of_gt F.ns.lt, next_is_new F⟩
  · exact ⟨hk₂ _ _ (N q hq).1, (N q hq).2⟩
theorem baSet_K {L ba : Addr} {m : Str → Option Value} {news rest : List (Addr × Obj)} {b : Array UInt8} {k v : Int} {t u : Tok} {Q : Unit → Shared → Prop} (F : Fr h₀ L s.heap m) (N : News h₀ L s.heap news) (hm : (ba, baObj b) ∈ news) (hr : ∀ q ∈ rest, q ∈ news) (hne : ∀ q ∈ rest, q.1 ≠ ba)
    (h0 : 0 ≤ k) (hn : k < b.size) (hz : b.size ≤ 16777216) (hv0 : 0 ≤ v) (hv1 : v < 256)
    (h : ∀ h', Fr h₀ L h' m → News h₀ L h' ((ba, baObj (b.setIfInBounds k.toNat v.toNat.toUInt8)) :: rest) → Q () { s with heap := h' }) :
    wpAny (model prog w) A (setItem (.ref ba) (.int k t) (.int v u)) Q E s :=
  ba_setItem (N _ hm).1 h0 hn hz hv0 hv1 fun ho' => have z := frnews_update F N hm hr hne ho'; h _ z.1 z.2
theorem bytesBa_K {L ba : Addr} {m : Str → Option Value} {news : List (Addr × Obj)} {b : Array UInt8} {Q : Value → Shared → Prop} (_F : Fr h₀ L s.heap m) (N : News h₀ L s.heap news) (hm : (ba, baObj b) ∈ news) (hz : b.size ≤ 16777216)
    (h : ∀ t k, Q (.bytes b t) { s with toks := k }) : wpAny (model prog w) A (call (.type "bytes") [.ref ba]) Q E s := call_bytes_ba (N _ hm).1 hz (h _ _)
theorem lk1 {a : Str} {u : Value} : (fun y => List.lookup y (List.reverse [(a, u)])) = fun y => if y = a then some u else none := by
  funext y
  show List.lookup y [(a, u)] = _
  by_cases h : y = a
  · subst h; simp
  · have : (y == a) = false := by simpa using h
    simp [List.lookup_cons, this, h]
theorem lk2 {a b : Str} {u v : Value} : (fun y => List.lookup y (List.reverse [(a, u), (b, v)])) = fun y => if y = b then some v else if y = a then some u else none := by
  funext y
  show List.lookup y [(b, v), (a, u)] = _
  by_cases h : y = b
  · subst h; simp
  · have : (y == b) = false := by simpa using h
    rw [List.lookup_cons, this, if_neg h]
    exact congrFun lk1 y
theorem lk3 {a b c : Str} {u v x : Value} : (fun y => List.lookup y (List.reverse [(a, u), (b, v), (c, x)])) = fun y => if y = c then some x else if y = b then some v else if y = a then some u else none := by
  funext y
  show List.lookup y [(c, x), (b, v), (a, u)] = _
  by_cases h : y = c
  · subst h; simp
  · have : (y == c) = false := by simpa using h
    rw [List.lookup_cons, this, if_neg h]
    exact congrFun lk2 y
/-- the place that a place is swapped with -/
def mir (wd k : Nat) : Nat := k / wd * wd + (wd - 1 - k % wd)
/-- q words and r octets of the next stand swapped -/
def SwInv (d : Array UInt8) (wd q r : Nat) (b : Array UInt8) : Prop := b.size = d.size ∧ ∀ k, (k < q * wd ∨ (q * wd + wd - r ≤ k ∧ k < q * wd + wd)) → b[k]? = d[mir wd k]?
theorem SwInv.start {d : Array UInt8} {wd : Nat} : SwInv d wd 0 0 (Array.replicate d.size 0) := ⟨by simp, fun k hk => by omega⟩
theorem SwInv.next {d b : Array UInt8} {wd q : Nat} (h : SwInv d wd q wd b) : SwInv d wd (q + 1) 0 b := ⟨h.1, fun k hk => h.2 k (by rw [Nat.succ_mul] at hk; omega)⟩
theorem mir_in {wd q x : Nat} (hx : x < wd) : mir wd (q * wd + x) = q * wd + (wd - 1 - x) := by
  unfold mir
  have h1 : (q * wd + x) / wd = q := by
    rw [Nat.mul_comm, Nat.mul_add_div (by omega), Nat.div_eq_of_lt hx]; omega
  have h2 : (q * wd + x) % wd = x := by
    rw [Nat.mul_comm, Nat.mul_add_mod, Nat.mod_eq_of_lt hx]
  rw [h1, h2]
theorem SwInv.step {d b : Array UInt8} {wd q r : Nat} {v : UInt8} (h : SwInv d wd q r b) (hr : r < wd) (hq : q * wd + wd ≤ d.size) (hv : d[q * wd + r]? = some v) : SwInv d wd q (r + 1) (b.setIfInBounds (q * wd + wd - 1 - r) v) := by
  refine ⟨by rw [Array.size_setIfInBounds]; exact h.1, fun k hk => ?_⟩
  have hs := h.1
  by_cases e : k = q * wd + wd - 1 - r
  · subst e
    have e2 : q * wd + wd - 1 - r = q * wd + (wd - 1 - r) := by omega
    rw [Array.getElem?_setIfInBounds_self_of_lt (by omega), e2, mir_in (by omega), ← hv]
    congr 1
    omega
  · rw [Array.getElem?_setIfInBounds_ne (Ne.symm e)]
    exact h.2 k (by omega)
/-- swapped, word by word -/
def swp (d : Array UInt8) (wd : Nat) : Array UInt8 := Array.ofFn fun k : Fin d.size => d.getD (mir wd k) 0
theorem SwInv.fin {d b : Array UInt8} {wd c : Nat} (hw : 1 ≤ wd) (hc : d.size = c * wd) (h : SwInv d wd c 0 b) : b = swp d wd := by
  refine Array.ext (by simp [swp, h.1]) fun k h1 h2 => ?_
  have h3 : k < d.size := by rw [← h.1]; exact h1
  have h4 := h.2 k (.inl (by rw [← hc]; exact h3))
  rw [Array.getElem?_eq_getElem h1] at h4
  simp only [swp, Array.getElem_ofFn]
  rw [Array.getD_eq_getD_getElem?, ← h4]
  rfl
theorem rangeSize_bounds {n c : Int} (h0 : 0 ≤ n) (h2 : 1 ≤ c) : 0 ≤ Builtin.Range.rangeSize 0 n c ∧ Builtin.Range.rangeSize 0 n c ≤ n := by
  unfold Builtin.Range.rangeSize
  rw [if_pos (by omega)]
  split
  · have h4 : 0 ≤ (n - 0 - 1) / c := Int.ediv_nonneg (by omega) (by omega)
    have h5 : (n - 0 - 1) / c ≤ n - 0 - 1 := Int.ediv_le_self _ (by omega)
    omega
  · omega
theorem range_small {n c : Int} (h0 : 0 ≤ n) (h1 : n ≤ 1000000) (h2 : 1 ≤ c) (h3 : c ≤ 1000000) : Builtin.Range.small 0 n c = true := by
  have hb := rangeSize_bounds h0 h2
  unfold Builtin.Range.small
  have hc : c > 0 := by omega
  simp only [Builtin.Range.rangeFitsLong, Bool.and_eq_true, Bool.or_eq_true, decide_eq_true_eq, beq_iff_eq, hc, if_true]
  omega
theorem range_size {c wd : Nat} (hw : 1 ≤ wd) : Builtin.Range.rangeSize 0 ((c * wd : Nat) : Int) (wd : Int) = (c : Int) := by
  unfold Builtin.Range.rangeSize
  have h1 : (wd : Int) > 0 := by omega
  rw [if_pos h1]
  cases c with
  | zero => simp
  | succ c =>
    have h2 : (0 : Int) < (((c + 1) * wd : Nat) : Int) := by
      have : 0 < (c + 1) * wd := Nat.mul_pos (by omega) (by omega)
      omega
    rw [if_pos h2]
    have h3 : (((c + 1) * wd : Nat) : Int) - 0 - 1 = ((wd : Int) - 1) + (wd : Int) * (c : Int) := by
      have : (((c + 1) * wd : Nat) : Int) = (wd : Int) * (c : Int) + (wd : Int) := by rw [Nat.succ_mul]; push_cast; rw [Int.mul_comm (c : Int)]
      omega
    rw [h3, Int.add_mul_ediv_left _ _ (by omega), Int.ediv_eq_zero_of_lt (by omega) (by omega)]
    omega
theorem octet_back {d : Array UInt8} {k : Nat} (h : k < d.size) : d[k]? = some ((KBw.bInts d).getD k 0).toNat.toUInt8 := by
  rw [Array.getElem?_eq_getElem h]
  congr 1
  have e : (KBw.bInts d)[k]? = some (d[k].toNat : Int) := KBw.ints_get (by rw [Array.getElem?_eq_getElem h])
  rw [List.getD_eq_getElem?_getD, e]
  simp
theorem Fr.grownAll {L : Addr} {h h' : Heap} {m : Str → Option Value} (F : Fr h₀ L h m) (hk : ∀ b o, h.get? b = some o → h'.get? b = some o) : Fr h₀ L h' m := F.keeps hk
end
end Mine
end

/-! ## Swap -/
section
open PySem PySem.W PyProof.Rows PySem.Calls PyProof.V PySem.Spec
open PySem.Sem (wp)
set_option maxRecDepth 100000
set_option maxHeartbeats 8000000
namespace Mine

abbrev swM (ba : Addr) (d : Array UInt8) (td : Tok) (wd : Nat) (tw : Tok) : Str → Option Value := fun y => if y = Str.ofString "swapped_data" then some (Value.ref ba) else if y = Str.ofString "width" then some (Value.int (wd : Int) tw) else if y = Str.ofString "data" then some (Value.bytes d td) else none
theorem byteswap_call {w : World} {dp un : Nat} {gd : Option (List Code)} {cn : Str} {cs : Scope} {a : Addr} {ccd : Value} {cl : List (Str × Addr)} {outer : List Env} {A₀ : Around} {base h₀ : Heap} {L : Addr} {m : Str → Option Value} {news : List (Addr × Obj)} {s : Shared}
    {p : Program} {loose : List Str} {mean : ExcName → Option Value} {mg mb : Str → Option Value} {Q E : Value → Shared → Prop} {d : Array UInt8} {wd : Nat} {td tw : Tok} {c : Nat}
    (B : Below A₀ base outer h₀) (F : Fr h₀ L s.heap m) (X : (Mine.hd.heap_39 w.params).In h₀) (N : News h₀ L s.heap news) (T : Top p loose mean mg mb h₀) (hk : cs.kind = .function)
    (hd : dp + 1 < recursionLimit) (hu : un + 8 < cLine) (hw1 : 1 ≤ wd) (hc : d.size = c * wd) (hz : d.size ≤ 10000) (hwz : wd ≤ 10000)
    (ret : ∀ t h' tk', Fr h₀ L h' m → News h₀ L h' news → Q (.bytes (swp d wd) t) { s with heap := h', toks := tk' }) :
    wpG (model PySem.Challenge.rw_nq0008_01.row.prog w) (ktrTop dp un gd cn cs L a ccd cl outer) (call (.ref 48) [.bytes d td, .int (wd : Int) tw]) Q E s := by
  revert X; k_fill; intro X
  obtain ⟨ks, hK⟩ : ∃ ks, KBw.bInts d = ks := ⟨_, rfl⟩
  have hKl : ks.length = d.size := by rw [← hK, KBw.ints_length]
  have hKz : ks.length ≤ 10000 := by omega
  refine wpG_call ?_
  k_dflt (refine' codeG_def (binds := [(Str.ofString "data", .bytes d td), (Str.ofString "width", .int (wd : Int) tw)]) ?k1 ?k2 ?k3 ?k4 ?k5 ?kA ?kF ?kK ?k6 ?k7 ?k8 ?k9 ?kB ?_ ?c2 ?c3 ?c4 ?c5; (case kA => exact rfl); (case kF => exact rfl); (case kK => assumption); (case k1 => k_asm); (case k2 => k_asm); (case k3 => k_asm); (case k4 => k_asm); (case k5 => k_asm); (case k6 => k_is); (case k7 => k_is); (case k8 => ktr_room); (case k9 => exact BindsTo.of_eq rfl); (case c5 => decide); (case kB => exact locs rfl); (case c2 => exact rfl); (case c3 => exact rfl); (case c4 => exact rfl); k_whole; intro g L' h₁ FG' F₁ N₁ B' X' T'; (try dsimp only))
  rw [lk2] at F₁
  refine wpG_execs_cons (wpG_Assign_Name (wpG_Call_Name ?_))
  k_steps
  refine callWithG_type ?_
  k_steps
  refine bytearray_K (by assumption) (by assumption) (by omega) (by omega) fun ba h₂ F₂ N₂ hne => ?_
  refine wpG.any ?_
  k_steps
  (with_reducible rename Fr _ _ _ _ => F₃); (with_reducible rename News _ _ _ _ => N₃)
  refine wpG_execs_any ?_
  refine For_invV (x := Str.ofString "i") g rfl rfl ?_
  refine wpAny_mono (Q := fun xv s₁ => Box (∃ r h' tk' t₀ u₀ v₀, xv = .ref r ∧ s₁ = { s with heap := h', toks := tk' } ∧ IsRange h' r 0 (ks.length : Int) (wd : Int) t₀ u₀ v₀ ∧ Fr g L' h' (swM ba d td wd tw) ∧ News g L' h' ((ba, baObj (Array.replicate ks.length 0)) :: news))) ?_ ?_ (fun _ _ x => x)
  · k_steps
    exact ⟨⟨_, _, _, _, _, _, rfl, rfl, by assumption, by assumption, by assumption⟩⟩
  rintro xv s₁ ⟨r, h₄, tk₄, t₀, u₀, v₀, rfl, rfl, hR, F₄, N₄⟩
  have hkc : (ks.length : Int) = ((c * wd : Nat) : Int) := by rw [hKl, hc]
  refine iter_rangeInv (n := c) (fun i m₁ news₁ => (∀ z, z ≠ Str.ofString "i" → z ≠ Str.ofString "j" → m₁ z = swM ba d td wd tw z) ∧ ∃ b, news₁ = (ba, baObj b) :: news ∧ SwInv d wd i 0 b) rfl hR (range_small (by omega) (by omega) (by omega) (by omega)) (by rw [hkc]; exact range_size hw1) F₄ N₄ ⟨fun _ _ _ => rfl, _, rfl, by rw [hKl]; exact SwInv.start⟩ ?_ ?_
  · rintro i t m₁ news₁ h₅ tk₅ own hi hadr hoff ⟨hm, b, rfl, hI⟩ F₅ N₅
    obtain ⟨X, hX⟩ : ∃ X : Int, X = 0 + (i : Int) * (wd : Int) := ⟨_, rfl⟩
    have hXi : X = ((i * wd : Nat) : Int) := by rw [hX]; push_cast; omega
    have hiw : i * wd + wd ≤ d.size := by
      have : (i + 1) * wd ≤ c * wd := Nat.mul_le_mul_right _ hi
      rw [Nat.succ_mul] at this
      omega
    rw [← hX] at F₅
    have eF : (fun y => if y = Str.ofString "i" then some (Value.int X t) else m₁ y) = fun y => if y = Str.ofString "i" then some (Value.int X t) else if y = Str.ofString "j" then m₁ y else swM ba d td wd tw y := by
      funext y
      by_cases h1 : y = Str.ofString "i"
      · simp [h1]
      · by_cases h2 : y = Str.ofString "j"
        · simp [h2]
        · simp only [if_neg h1, if_neg h2]; exact hm y h1 h2
    rw [eF] at F₅
    refine wpAny_execs_cons ?_
    refine For_invV (x := Str.ofString "j") g rfl rfl ?_
    refine wpAny_mono (Q := fun xv s₁ => Box (∃ r h' tk' t₀ u₀ v₀, xv = .ref r ∧ s₁ = { s with heap := h', toks := tk' } ∧ IsRange h' r 0 (wd : Int) 1 t₀ u₀ v₀ ∧ Fr g L' h' (fun y => if y = Str.ofString "i" then some (Value.int X t) else if y = Str.ofString "j" then m₁ y else swM ba d td wd tw y) ∧ News g L' h' ((ba, baObj b) :: news ++ own))) ?_ ?_ (fun _ _ x => x)
    · k_steps
      exact ⟨⟨_, _, _, _, _, _, rfl, rfl, by assumption, by assumption, by assumption⟩⟩
    rintro xv s₁ ⟨r', h₆, tk₆, t₀', u₀', v₀', rfl, rfl, hR', F₆, N₆⟩
    refine iter_rangeInv (n := wd) (fun j m₂ news₂ => (∀ z, z ≠ Str.ofString "j" → m₂ z = if z = Str.ofString "i" then some (Value.int X t) else swM ba d td wd tw z) ∧ ∃ b, news₂ = (ba, baObj b) :: news ++ own ∧ SwInv d wd i j b) rfl hR' (range_small (by omega) (by omega) (by omega) (by omega)) (by have := range_size (c := wd) (wd := 1) (by omega); rw [Nat.mul_one] at this; exact this) F₆ N₆ ⟨fun z hz => by simp only [if_neg hz], _, rfl, hI⟩ ?_ ?_
    · rintro j t' m₂ news₂ h₇ tk₇ own₂ hj hadr₂ hoff₂ ⟨hm₂, b₂, rfl, hI₂⟩ F₇ N₇
      have eF₂ : (fun y => if y = Str.ofString "j" then some (Value.int (0 + (j : Int) * 1) t') else m₂ y) = fun y => if y = Str.ofString "j" then some (Value.int (j : Int) t') else if y = Str.ofString "i" then some (Value.int X t) else swM ba d td wd tw y := by
        funext y
        by_cases h2 : y = Str.ofString "j"
        · simp [h2]
        · simp only [if_neg h2]; exact hm₂ y h2
      rw [eF₂] at F₇
      clear F₄ N₄ F₅ N₅ F₆ N₆ hR hR'
      k_steps
      refine baSet_K (b := b₂) (rest := news ++ own ++ own₂) (by assumption) (by assumption) (.head _) (fun q hq => .tail _ hq) (fun q hq => ?_) (by omega) (by rw [hI₂.1]; omega) (by rw [hI₂.1]; omega) (by assumption) (by assumption) ?_
      · rcases List.mem_append.mp hq with hq | hq
        · rcases List.mem_append.mp hq with hq | hq
          · exact hne q hq
          · exact hoff q hq ba (.head _)
        · exact hoff₂ q hq ba (.head _)
      intro h₈ F₈ N₈
      refine wpAny_execs_nil ?_
      have e1 : (X + (wd : Int) - 1 - (j : Int)).toNat = i * wd + wd - 1 - j := by omega
      have e2 : (X + (j : Int)).toNat = i * wd + j := by omega
      rw [e1, e2, ← hK] at N₈
      refine InvEndN.intro (nx := (ba, baObj (b₂.setIfInBounds (i * wd + wd - 1 - j) ((KBw.bInts d).getD (i * wd + j) 0).toNat.toUInt8)) :: news ++ own) F₈ N₈ ⟨fun z hz => by simp only [if_neg hz], _, rfl, hI₂.step hj hiw (octet_back (by omega))⟩ rfl (fun q hq => ?_) (fun q hq => .tail _ (List.mem_append_right _ hq))
      rcases List.mem_cons.mp hq with rfl | hq
      · exact .head _
      · exact .tail _ (List.mem_append_left _ hq)
    · rintro m₂ news₂ h₇ tk₇ ⟨hm₂, b₂, rfl, hI₂⟩ F₇ N₇
      refine wpAny_execs_nil ?_
      refine InvEndN.intro (nx := (ba, baObj b₂) :: news) F₇ N₇ ⟨fun z h1 h2 => by rw [hm₂ z h2, if_neg h1], _, rfl, hI₂.next⟩ rfl (fun q hq => ?_) (fun q hq => List.mem_append_right _ hq)
      exact List.mem_append_left _ hq
  · rintro m₁ news₁ h₅ tk₅ ⟨hm, b, rfl, hI⟩ F₅ N₅
    have hb := SwInv.fin hw1 hc hI
    subst hb
    have eF : m₁ = fun y => if y = Str.ofString "i" then m₁ y else if y = Str.ofString "j" then m₁ y else swM ba d td wd tw y := by
      funext y
      by_cases h1 : y = Str.ofString "i"
      · simp [h1]
      · by_cases h2 : y = Str.ofString "j"
        · simp [h2]
        · simp only [if_neg h1, if_neg h2]; exact hm y h1 h2
    rw [eF] at F₅
    clear F₄ N₄ hR
    refine wpG_execs_any ?_
    k_steps
    refine bytesBa_K (by assumption) (by assumption) (.head _) (by simp only [swp, Array.size_ofFn]; omega) ?_
    intro t₉ tk₉
    k_steps
    exact ret _ _ _ (by assumption) (cb_drop (by assumption) (fun q hq => List.Mem.tail _ hq))
end Mine
end

/-! ## Oct -/
section
open PySem PySem.W PyProof.Rows PySem.Calls
set_option maxRecDepth 100000
set_option maxHeartbeats 8000000
namespace Mine
theorem p256_ne (k : Int) : (256 : Int) ^ k.toNat ≠ 0 := Int.pow_ne_zero (by decide)
theorem p256_py {k : Int} (h : k < 1000) : ((256 : Int) ^ k.toNat).natAbs.log2 < 9000 := by
  rw [Int.natAbs_pow]
  have h0 : Int.natAbs 256 ^ k.toNat ≠ 0 := Nat.ne_of_gt (Nat.pow_pos (by decide))
  rw [Nat.log2_lt h0]
  show 256 ^ k.toNat < 2 ^ 9000
  calc 256 ^ k.toNat ≤ 256 ^ 1000 := Nat.pow_le_pow_right (by decide) (by omega)
    _ = 2 ^ 8000 := by rw [show (256 : Nat) = 2 ^ 8 from rfl, ← Nat.pow_mul]
    _ < 2 ^ 9000 := Nat.pow_lt_pow_right (by decide) (by decide)
local macro_rules | `(tactic| walk_at "binaryOp FloorDiv int int") => `(tactic| (k_here; (with_reducible show wpAny _ _ (binaryOp Operator.FloorDiv (Value.int _ _) (Value.int (256 ^ Int.toNat _) _)) _ _ _); (with_reducible refine floordiv_int (p256_ne _) ?_ (Or.inl (PyProof.noPylong_of_log2 (p256_py (by omega)))))))
local macro_rules | `(tactic| ktr_enter) => `(tactic| (refine' code_defC ?k1 ?k2 ?k3 ?k4 ?k5 ?kA ?kF ?kK ?k6 ?k7 ?k8 ?k9 ?kB ?kD ?_ ?c2 ?c3 ?c4; (case kA => exact rfl); (case kF => exact rfl); (case kK => assumption); (case k1 => k_asm); (case k2 => k_asm); (case k3 => k_asm); (case k4 => k_asm); (case k5 => k_asm); (case k6 => k_is); (case k7 => k_is); (case k8 => ktr_room); (case k9 => exact BindsTo.of_eq rfl); (case kB => exact rfl); (case kD => decide +kernel); (case c2 => exact rfl); (case c3 => exact rfl); (case c4 => exact rfl); k_whole; intro g' L' h' tk' cells' FG' F' N' Y' B' X' T' l1; k_cells Y'; (try simp only [List.cons_append, List.nil_append] at N'); (try dsimp only); (try k_lift B'); (try k_fold)))

def octs (x wd : Int) : Array UInt8 := byteArr ((rangeKs 0 (wd - 0).toNat).map fun k => ((x.fmod (256 ^ wd.toNat)).fdiv (256 ^ k.toNat)).fmod 256)
theorem octets_call {w : World} {dp un : Nat} {gd : Option (List Code)} {cn : Str} {cs : Scope} {a : Addr} {ccd : Value} {cl : List (Str × Addr)} {outer : List Env} {A₀ : Around} {base h₀ : Heap} {L : Addr} {m : Str → Option Value} {news : List (Addr × Obj)} {s : Shared}
    {p : Program} {loose : List Str} {mean : ExcName → Option Value} {mg mb : Str → Option Value} {Q E : Value → Shared → Prop} {x wd : Int} {tx tw : Tok}
    (B : Below A₀ base outer h₀) (F : Fr h₀ L s.heap m) (X : (Mine.hd.heap_39 w.params).In h₀) (N : News h₀ L s.heap news) (T : Top p loose mean mg mb h₀) (hk : cs.kind = .function)
    (hd : dp + 1 < recursionLimit) (hu : un + 8 < cLine) (hw1 : 1 ≤ wd) (hw2 : wd ≤ 3)
    (ret : ∀ t h' tk', Fr h₀ L h' m → News h₀ L h' news → Q (.bytes (octs x wd) t) { s with heap := h', toks := tk' }) :
    wpAny (model PySem.Challenge.rw_nq0008_01.row.prog w) (ktrTop dp un gd cn cs L a ccd cl outer) (call (.ref 53) [.int x tx, .int wd tw]) Q E s := by
  revert X; k_fill; intro X
  refine wpAny_call ?_
  k_dflt ktr_enter
  k_steps
  exact ret _ _ _ (by assumption) (cb_drop (by assumption) (fun q hq => by repeat (first | exact hq | refine List.Mem.tail _ ?_)))
end Mine
end

/-! ## Turn -/
section
open PySem PySem.W PyProof.Rows PySem.Calls PyProof.V PySem.Spec
set_option maxRecDepth 100000
set_option maxHeartbeats 8000000
namespace Mine
theorem xor_in {n : Int} (h0 : 0 ≤ n) (h1 : n < 256) : 0 ≤ Builtin.bitXor n 128 ∧ Builtin.bitXor n 128 < 256 := by
  have h : ∀ k : Fin 256, 0 ≤ Builtin.bitXor (k.val : Int) 128 ∧ Builtin.bitXor (k.val : Int) 128 < 256 := by decide +kernel
  have := h ⟨n.toNat, by omega⟩
  rwa [show ((n.toNat : Nat) : Int) = n from by omega] at this
/-- a word with its first bit turned -/
def turnB (d : Array UInt8) : Array UInt8 := (List.map (fun n : Int => n.toNat.toUInt8) [Builtin.bitXor ((KBw.bInts d).getD (Int.toNat 0) 0) 128]).toArray ++ KBy.picked d (some 1) none
theorem turned_call {w : World} {dp un : Nat} {gd : Option (List Code)} {cn : Str} {cs : Scope} {a : Addr} {ccd : Value} {cl : List (Str × Addr)} {outer : List Env} {A₀ : Around} {base h₀ : Heap} {L : Addr} {m : Str → Option Value} {news : List (Addr × Obj)} {s : Shared}
    {p : Program} {loose : List Str} {mean : ExcName → Option Value} {mg mb : Str → Option Value} {Q E : Value → Shared → Prop} {d : Array UInt8} {td : Tok}
    (B : Below A₀ base outer h₀) (F : Fr h₀ L s.heap m) (X : (Mine.hd.heap_39 w.params).In h₀) (N : News h₀ L s.heap news) (T : Top p loose mean mg mb h₀) (hk : cs.kind = .function)
    (hd : dp + 1 < recursionLimit) (hu : un + 8 < cLine) (h1 : 1 ≤ d.size) (hz : d.size ≤ 10000)
    (ret : ∀ t h' tk', Fr h₀ L h' m → News h₀ L h' news → Q (.bytes (turnB d) t) { s with heap := h', toks := tk' }) :
    wpAny (model PySem.Challenge.rw_nq0008_01.row.prog w) (ktrTop dp un gd cn cs L a ccd cl outer) (call (.ref 65) [.bytes d td]) Q E s := by
  revert X; k_fill; intro X
  obtain ⟨ks, hK⟩ : ∃ ks, KBw.bInts d = ks := ⟨_, rfl⟩
  have hKl : ks.length = d.size := by rw [← hK, KBw.ints_length]
  have hKz : ks.length ≤ 10000 := by omega
  refine wpAny_call ?_
  k_dflt ktr_enter
  k_steps
  have hx : 0 ≤ Builtin.bitXor (ks.getD (Int.toNat 0) 0) 128 ∧ Builtin.bitXor (ks.getD (Int.toNat 0) 0) 128 < 256 := xor_in (by assumption) (by assumption)
  refine bytes_K (ns := [Builtin.bitXor (ks.getD (Int.toNat 0) 0) 128]) (by assumption) (by assumption) (by is_list) (by repeat constructor) (fun n hn => by rw [List.mem_singleton.mp hn]; exact hx) (by rw [sizeLine_eq]; show 1 ≤ 16777216; decide) rfl ?_
  intro h₂ t₂ k₂ F₂ N₂ _
  have hK₂ : KBw.bInts (([Builtin.bitXor (ks.getD (Int.toNat 0) 0) 128].map fun n => n.toNat.toUInt8).toArray) = [Builtin.bitXor (ks.getD (Int.toNat 0) 0) 128] := by
    show [(((Builtin.bitXor (ks.getD (Int.toNat 0) 0) 128).toNat.toUInt8.toNat : Nat) : Int)] = _
    rw [byte_back hx.1 hx.2]
  k_steps
  subst hK
  exact ret _ _ _ (by assumption) (cb_drop (by assumption) (fun q hq => List.Mem.tail _ hq))
end Mine
end

/-! ## Comp -/
section
open PySem PySem.W PyProof.Rows PySem.Calls PyProof.V PySem.Spec
set_option maxRecDepth 100000
set_option maxHeartbeats 8000000
namespace Mine
open PyProof.Rows.LCg
section
variable {prog : Program} {w : World} {A : Around} {E : Value → Shared → Prop} {s : Shared} {h₀ : Heap} {L : Addr} {m : Str → Option Value} {env : Env}

/-- the turns of a comprehension by what holds between them -/
theorem compRest_inv {elt : Expr} {x : Str} {scope : Scope} {cl : List (Str × Addr)} {S : List (Addr × Obj) → Prop} {P : Nat → Value → Prop} {Fin : List Value → List (Addr × Obj) → Prop} {n : Nat} (J : Nat → List Value → List (Addr × Obj) → Prop)
    (step : ∀ i ys news, i < n → J i ys news → ∀ v I oI C oC D m₂ h tk (E' : Value → Shared → Prop), P i v → NsObj oC m₂ → m₂ x = some v → Fr h₀ L h m → News h₀ L h ((I, oI) :: (C, oC) :: (D, lst ys) :: news) → Off3 I C D news → ((@Ne Nat I C) ∧ (@Ne Nat I D) ∧ (@Ne Nat C D)) →
      wpAny (model prog w) A (eval elt (compEnvC scope cl C env)) (CompEnd h₀ L m { s with heap := h, toks := tk } I oI C oC D (lst ys) S (fun y news' => J (i + 1) (ys ++ [y]) news')) E' { s with heap := h, toks := tk })
    (fin : ∀ ys news, J n ys news → Fin ys news) : ∀ k i ys news, k + i = n → J i ys news → CompRest prog w A h₀ L m env elt x scope cl s S P Fin k i ys news := by
  intro k
  induction k with
  | zero =>
    intro i ys news hi hJ
    have e : i = n := by omega
    subst e
    exact CompRest.zero (fin ys news hJ)
  | succ k ih =>
    intro i ys news hi hJ
    refine CompRest.succ fun v I oI C oC D m₂ h tk E' hP hC hx F N off ne => ?_
    refine wpAny_mono (step i ys news (by omega) hJ v I oI C oC D m₂ h tk E' hP hC hx F N off ne) (fun y s' z => ?_) fun _ _ e => e
    obtain ⟨h', tk', news', e, F', N', off', hS, hj⟩ := z
    exact ⟨h', tk', news', e, F', N', off', hS, ih (i + 1) _ _ (by omega) hj⟩

def SrcStep (prog : Program) (w : World) (A : Around) (h₀ : Heap) (L : Addr) (m : Str → Option Value) (env : Env) (elt : Expr) (x : Str) (scope : Scope) (cl : List (Str × Addr)) (Fin : Shared → List Value → List (Addr × Obj) → Prop) (xv : Value) (s₁ : Shared) : Prop :=
  ∃ r a b c t u v n news, xv = .ref r ∧ A.handled = none ∧ Fr h₀ L s₁.heap m ∧ News h₀ L s₁.heap news ∧ IsRange s₁.heap r a b c t u v ∧ Builtin.Range.small a b c = true ∧ Builtin.Range.rangeSize a b c = ((n : Nat) : Int) ∧ n ≤ sizeLine ∧
    ∀ s₂ : Shared, (∃ h, s₂ = { s₁ with heap := h }) → CompRest prog w A h₀ L m env elt x scope cl s₂ (fun _ => True) (fun i v => ∃ t, v = .int (a + (i : Int) * c) t) (Fin s₂) n 0 [] news

theorem ListComp_step {elt iter : Expr} {x : Str} {px : Pos} {scope : Scope} {cl : List (Str × Addr)} {pos : Pos} {Q : Value → Shared → Prop} (_F₀ : Fr h₀ L s.heap m)
    (hclos : closureFor scope env = pure cl) (hcell : ∀ y ∈ scope.names, y.2 ≠ .cell) (hkind : scope.kind = .function)
    (hnames : ∀ y ∈ scope.names, y.2 = .local → scope.names.lookup y.1 = some .local) (hx : scope.names.lookup x = some .local)
    (h : wpAny (model prog w) A (eval iter env) (SrcStep prog w A h₀ L m env elt x scope cl (fun s₂ => FinE h₀ L m s₂ Q)) E s)
    (hs : ∀ x, foldedSetIterable iter env x = pure x := by intro _; rfl) :
    wpAny (model prog w) A (eval (.ListComp elt [⟨.Name x px, iter, [], 0⟩] scope pos) env) Q E s := by
  rw [eval_ListComp]
  refine wpAny_comprehension_free (use := none) rfl hs hclos hkind hnames (wpAny_mono h (fun xv s₁ h₁ => ?_) fun _ _ e => e)
  obtain ⟨r, a, b, c, t, u, v, n, news, rfl, hh, F, N, hr, hsm, hn, hsz, R⟩ := h₁
  refine wpAny_pyIter_range hr hsm ?_
  have hnew := next_is_new F
  have W : Walks prog w A s₁.heap.objs.size [s₁.heap.objs.size] [s₁.heap.objs.size] n (fun i v => ∃ t, v = .int (a + (i : Int) * c) t) (fun i h => IsRangeIter h s₁.heap.objs.size (a + (i : Nat) * c) ((n : Int) - (i : Nat)) c) := Walks.range hh _ a c n
  refine block_U W hsz (fun i h st => ⟨_, st⟩) (fun i h h' o nw st e e' _ _ _ => ?_) hcell hkind hx (by show IsRangeIter _ _ _ _ _; rw [hn]; simpa using Heap.get?_push_size _ rfl) (fun b hb => ?_)
    (F.push _) (fun p hp => ⟨Heap.get?_push_of_some _ (N p hp).1, (N p hp).2⟩) (Nat.ne_of_lt F.ns.lt) hnew (fun p hp => Nat.ne_of_lt (Heap.lt_size (N p hp).1)) trivial (R _ ⟨_, rfl⟩) ?_
  · have st' : h.get? s₁.heap.objs.size = some _ := st
    show h'.get? s₁.heap.objs.size = some _
    rw [e', ← e]; exact st'
  · rw [List.mem_singleton.mp hb]
    exact Heap.lt_size (Heap.get?_push_size _ rfl)
  · intro D C h tk m' ys news' F' N' o1 hn' hC₀ _ hCL _ hCD offC fin
    refine ⟨m', hn', fun h'' hs'' => fin D h'' tk (F'.change hs'' hCL hC₀) (fun p hp => ⟨hs''.extBut _ _ (fun e => ?_) (N' p hp).1, (N' p hp).2⟩) o1⟩
    rcases List.mem_cons.mp hp with rfl | hp
    · exact hCD e.symm
    · exact offC p hp e
end
theorem off1_mem {D : Addr} (l : List (Addr × Obj)) (h : Off1 D l) : ∀ p ∈ l, p.1 ≠ D := by
  induction l with
  | nil => intro p hp; cases hp
  | cons q r ih =>
    intro p hp
    have h' : (@Ne Nat q.1 D) ∧ Off1 D r := h
    rcases List.mem_cons.mp hp with e | hp
    · rw [e]; exact h'.1
    · exact ih h'.2 p hp
/-- a list of bytes values -/
def bv (l : List (Array UInt8 × Tok)) : List Value := l.map fun x => Value.bytes x.1 x.2
theorem bv_length (l : List (Array UInt8 × Tok)) : (bv l).length = l.length := by simp [bv]
theorem bv_append (l r : List (Array UInt8 × Tok)) : bv (l ++ r) = bv l ++ bv r := by simp [bv]
theorem bv_get {l : List (Array UInt8 × Tok)} {i : Nat} {v : Value} (h : (bv l)[i]? = some v) : ∃ b t, l[i]? = some (b, t) ∧ v = .bytes b t := by
  unfold bv at h
  rw [List.getElem?_map] at h
  obtain ⟨⟨b, t⟩, h1, h2⟩ := Option.map_eq_some_iff.mp h
  exact ⟨b, t, h1, h2.symm⟩
end Mine
end

/-! ## Comp2 -/
section
open PySem PySem.W PyProof.Rows PySem.Calls PyProof.V PySem.Spec
set_option maxRecDepth 100000
set_option maxHeartbeats 8000000
namespace Mine
open PyProof.Rows.LCg
theorem compTurn_in (elt t1 i1 t2 i2 : Expr) (scope : Scope) (pos : Pos) (it acc : Value) (env : Env) :
    compTurn (.ListComp elt [⟨t1, i1, [], 0⟩, ⟨t2, i2, [], 0⟩] scope pos) 1 it acc env = (standAt i2.pos >>= fun _ => pyNext it >>= fun r => match r with
      | none => pure (.done .next)
      | some v => letOwnedTupleGo t2 it v >>= fun _ => assign t2 env v >>= fun _ =>
        (eval elt env >>= fun x => call (.builtin "list.append") [acc, x] >>= fun _ => pure ()) >>= fun _ =>
          again (.compLoop (.ListComp elt [⟨t1, i1, [], 0⟩, ⟨t2, i2, [], 0⟩] scope pos) 1 it acc env)) := by rfl
theorem compTurn_out (elt t1 i1 t2 i2 : Expr) (scope : Scope) (pos : Pos) (it acc : Value) (env : Env) :
    compTurn (.ListComp elt [⟨t1, i1, [], 0⟩, ⟨t2, i2, [], 0⟩] scope pos) 0 it acc env = (standAt i1.pos >>= fun _ => pyNext it >>= fun r => match r with
      | none => pure (.done .next)
      | some v => letOwnedTupleGo t1 it v >>= fun _ => assign t1 env v >>= fun _ =>
        eval i2 env >>= fun x => standAt i2.pos >>= fun _ => foldedSetIterable i2 env x >>= fun x => holding [x] (pyIter x) >>= fun j =>
          runOwn (.compStart (.ListComp elt [⟨t1, i1, [], 0⟩, ⟨t2, i2, [], 0⟩] scope pos) 1 j acc env) env >>= fun _ =>
          again (.compLoop (.ListComp elt [⟨t1, i1, [], 0⟩, ⟨t2, i2, [], 0⟩] scope pos) 0 it acc env)) := by rfl
section
variable {prog : Program} {w : World} {A : Around} {E : Value → Shared → Prop} {s : Shared} {h₀ : Heap} {L : Addr} {m : Str → Option Value} {env : Env} {R : Result → Shared → Prop}
theorem compStart_in {elt t1 i1 t2 i2 : Expr} {scope : Scope} {pos : Pos} {it acc : Value} {env : Env}
    (h0 : codeAny (model prog w) A (.compLoop (.ListComp elt [⟨t1, i1, [], 0⟩, ⟨t2, i2, [], 0⟩] scope pos) 1 it acc env) R s)
    (h : wpAny (model prog w) A (pyIter it) (fun it' s' => codeAny (model prog w) A (.compLoop (.ListComp elt [⟨t1, i1, [], 0⟩, ⟨t2, i2, [], 0⟩] scope pos) 1 it' acc env) R s')
      (notedBy (model prog w) A env fun x s' => R (.error x) s') s) :
    codeAny (model prog w) A (.compStart (.ListComp elt [⟨t1, i1, [], 0⟩, ⟨t2, i2, [], 0⟩] scope pos) 1 it acc env) R s := by
  refine codeAny_of_tree ?_
  show wpAny _ _ ((compStart (.ListComp elt [⟨t1, i1, [], 0⟩, ⟨t2, i2, [], 0⟩] scope pos) 1 it acc env).onRaise (fun x => do noteFrame x env; standAt theWindowsPlace)) _ _ s
  refine wpAny_notedAt ?_
  unfold compStart
  show wpAny _ _ (ask >>= _) _ _ s
  refine wpAny_bind (wpAny_askSetting (wpAny_ite ?_))
  split
  · first
      | exact wpAny_bind (wpAny_pure (wpAny_pure (And.intro rfl h0)))
      | exact wpAny_pure (And.intro rfl h0)
  · first
      | exact wpAny_bind (wpAny_rule (wpAny_bind (wpAny_standAt (wpAny_bind (wpAny_mono h (fun it' s' h' => wpAny_pure (And.intro rfl h')) fun _ _ x => x)))))
      | (refine wpAny_bind (wpAny_rule ?_); show wpAny _ _ (standAt i2.pos >>= _) _ _ s; exact wpAny_bind (wpAny_standAt (wpAny_bind (wpAny_mono h (fun it' s' h' => wpAny_pure (And.intro rfl h')) fun _ _ x => x))))

theorem inner_loop {elt t1 i1 i2 : Expr} {y : Str} {py : Pos} {scope : Scope} {cl : List (Str × Addr)} {pos : Pos} {s₂ : Shared} {I C D : Addr} {n : Nat} {a : Int} {ys₀ : List Value} {news₀ : List (Addr × Obj)} {m₂ : Str → Option Value} (J : Nat → List Value → List (Addr × Obj) → Prop)
    (hh : A.handled = none) (hkind : scope.kind = .function) (hy : scope.names.lookup y = some .local)
    (hst : IsRangeIter s₂.heap I a n 1) (F : Fr h₀ L s₂.heap m) (hC : s₂.heap.Ns C m₂) (N : News h₀ L s₂.heap ((D, lst ys₀) :: news₀)) (off : Off3 I C D news₀)
    (ne : ((@Ne Nat I C) ∧ (@Ne Nat I D) ∧ (@Ne Nat C D))) (hIL : L ≠ I) (hI₀ : h₀.get? I = none) (hCL : C ≠ L) (hC₀ : h₀.get? C = none)
    (hJ : J 0 ys₀ news₀) (hlen : ys₀.length + n ≤ sizeLine)
    (turn : ∀ j ys news, j < n → J j ys news → ∀ oI oC m₃ h tk (E' : Value → Shared → Prop) t, NsObj oC m₃ → (∀ z, z ≠ y → m₃ z = m₂ z) → m₃ y = some (.int (a + (j : Int)) t) → Fr h₀ L h m → News h₀ L h ((I, oI) :: (C, oC) :: (D, lst ys) :: news) → Off3 I C D news →
      wpAny (model prog w) A (eval elt (compEnvC scope cl C env)) (CompEnd h₀ L m { s₂ with heap := h, toks := tk } I oI C oC D (lst ys) (fun _ => True) (fun v news' => J (j + 1) (ys ++ [v]) news')) E' { s₂ with heap := h, toks := tk })
    (done : ∀ ys news m₃ h tk, J n ys news → ys.length = ys₀.length + n → Fr h₀ L h m → h.Ns C m₃ → (∀ z, z ≠ y → m₃ z = m₂ z) → News h₀ L h ((D, lst ys) :: news) → Off3 I C D news → R (.ok .next) { s₂ with heap := h, toks := tk }) :
    codeAny (model prog w) A (.compStart (.ListComp elt [⟨t1, i1, [], 0⟩, ⟨.Name y py, i2, [], 0⟩] scope pos) 1 (.ref I) (.ref D) (compEnvC scope cl C env)) R s₂ := by
  have W : Walks prog w A I [I] [I] n (fun i v => ∃ t, v = .int (a + (i : Int)) t) (fun i h => IsRangeIter h I (a + (i : Nat) * 1) ((n : Int) - (i : Nat)) 1) := range_walks hh a n
  have hst0 : IsRangeIter s₂.heap I (a + ((0 : Nat) : Int) * 1) ((n : Int) - ((0 : Nat) : Int)) 1 := by simpa using hst
  have loop : codeAny (model prog w) A (.compLoop (.ListComp elt [⟨t1, i1, [], 0⟩, ⟨.Name y py, i2, [], 0⟩] scope pos) 1 (.ref I) (.ref D) (compEnvC scope cl C env)) R s₂ := by
    refine codeAny_loop rfl (fun k s' => ∃ h' tk i ys m₃ news', s' = { s₂ with heap := h', toks := tk } ∧ i ≤ n ∧ k = n + 1 - i ∧ ys.length = ys₀.length + i ∧ IsRangeIter h' I (a + ((i : Nat) : Int) * 1) ((n : Int) - ((i : Nat) : Int)) 1 ∧ Fr h₀ L h' m ∧ h'.Ns C m₃ ∧ (∀ z, z ≠ y → m₃ z = m₂ z) ∧ News h₀ L h' ((D, lst ys) :: news') ∧ Off3 I C D news' ∧ J i ys news') ?_ (n + 1)
      ⟨s₂.heap, s₂.toks, 0, ys₀, m₂, news₀, rfl, Nat.zero_le _, rfl, rfl, hst0, F, hC, fun _ _ => rfl, N, off, hJ⟩
    rintro k s' ⟨h', tk, i, ys, m₃, news', rfl, hi, rfl, hyl, hst', F', hn', hm', N', off', hJ'⟩
    show wpAny _ A ((compTurn (.ListComp elt [⟨t1, i1, [], 0⟩, ⟨.Name y py, i2, [], 0⟩] scope pos) 1 (.ref I) (.ref D) (compEnvC scope cl C env)).onRaise (fun x => do noteFrame x (compEnvC scope cl C env); theTreesLotGoes x)) _ _ _
    refine wpAny_noted ?_
    rw [compTurn_in]
    refine wpAny_bind (wpAny_standAt (wpAny_bind ?_))
    have off3 := off'.mem
    by_cases hlt : i < n
    · refine W.item i _ _ _ hlt hst' fun v h₂ tk₂ hPv hst₂ hk₂ => ?_
      obtain ⟨t, rfl⟩ := hPv
      refine wpAny_bind (wpAny_pure ?_)
      refine wpAny_bind (wpAny_assign_Name (wpAny_storeName_local (lookup_relabel_local hy) (hn'.at' fun o e => hk₂ _ o (by simpa using Ne.symm ne.1) e) (fun h₃ hn₃ hs₃ => ?_) (by simp [compEnvC, relabel, hkind])))
      have hst₃ : IsRangeIter h₃ I (a + ((i + 1 : Nat) : Int) * 1) ((n : Int) - ((i + 1 : Nat) : Int)) 1 := W.frame (i + 1) _ _ hst₂ fun b hb o e => hs₃.extBut b o (fun q => ne.1 (by rw [← List.mem_singleton.mp hb]; exact q)) e
      obtain ⟨oI, heI⟩ : ∃ oI, h₃.get? I = some oI := ⟨_, hst₃⟩
      obtain ⟨oC, heC, hoC⟩ := ns_obj hn₃
      have hDL : D ≠ L := (N' _ List.mem_cons_self).2.1
      have hD₀ : h₀.get? D = none := (N' _ List.mem_cons_self).2.2
      have F₃ : Fr h₀ L h₃ m := (fr_but F' hk₂ hIL hI₀).change hs₃ hCL hC₀
      have N₂ : News h₀ L h₂ ((D, lst ys) :: news') := news_but N' hk₂ fun p hp => by
        rcases List.mem_cons.mp hp with rfl | hp
        · exact Ne.symm ne.2.1
        · exact (off3 p hp).1
      have N₃ : News h₀ L h₃ ((I, oI) :: (C, oC) :: (D, lst ys) :: news') := fun p hp => by
        rcases List.mem_cons.mp hp with rfl | hp
        · exact ⟨heI, Ne.symm hIL, hI₀⟩
        · rcases List.mem_cons.mp hp with rfl | hp
          · exact ⟨heC, hCL, hC₀⟩
          · have z := N₂ p hp
            refine ⟨hs₃.extBut _ _ ?_ z.1, z.2⟩
            rcases List.mem_cons.mp hp with rfl | hp
            · exact Ne.symm ne.2.2
            · exact (off3 p hp).2.1
      refine wpAny_bind (wpAny_bind (wpAny_mono (turn i ys news' hlt hJ' oI oC _ h₃ _ _ t hoC (fun z hz => by rw [if_neg hz]; exact hm' z hz) (by simp) F₃ N₃ off') (fun v s₄ h₄ => ?_) fun _ _ e => e))
      obtain ⟨h₄, tk₄, news₄, rfl, F₄, N₄, off₄, _, hJ₄⟩ := h₄
      have zI := (N₄ (I, oI) List.mem_cons_self).1
      have zC := (N₄ (C, oC) (List.mem_cons_of_mem _ List.mem_cons_self)).1
      have zD := (N₄ (D, lst ys) (List.mem_cons_of_mem _ (List.mem_cons_of_mem _ List.mem_cons_self))).1
      have N₄' : News h₀ L h₄ news₄ := fun p hp => N₄ p (List.mem_cons_of_mem _ (List.mem_cons_of_mem _ (List.mem_cons_of_mem _ hp)))
      have off4 := off₄.mem
      refine wpAny_bind (append_at (hsz := by show ys.toArray.size ≤ sizeLine; rw [List.size_toArray, hyl]; omega) zD fun h₅ hs₅ hD₅ => ?_)
      refine wpAny_pure (wpAny_pure ⟨rfl, n + 1 - (i + 1), by omega, h₅, tk₄, i + 1, ys ++ [v], _, news₄, rfl, hlt, rfl, by rw [List.length_append, List.length_singleton, hyl]; omega, ?_, F₄.change hs₅ hDL hD₀,
        (hoC.ns zC).sameBut hs₅ ne.2.2, (fun z hz => by rw [if_neg hz]; exact hm' z hz), fun p hp => ?_, off₄, hJ₄⟩)
      · have e1 : h₅.get? I = some oI := hs₅.extBut _ _ ne.2.1 zI
        have e2 : h₃.get? I = some _ := hst₃
        show h₅.get? I = some _
        rw [e1, ← heI]
        exact e2
      · rcases List.mem_cons.mp hp with rfl | hp
        · exact ⟨hD₅.trans (congrArg some (lst_snoc ys v)), hDL, hD₀⟩
        · exact ⟨hs₅.extBut _ _ (off4 p hp).2.2 (N₄' p hp).1, (N₄' p hp).2⟩
    · obtain rfl : i = n := Nat.le_antisymm hi (Nat.not_lt.mp hlt)
      refine W.done _ _ _ hst' fun h₂ tk₂ hk₂ => ?_
      refine wpAny_pure ?_
      exact done ys news' m₃ h₂ tk₂ hJ' hyl (fr_but F' hk₂ hIL hI₀) (hn'.at' fun o e => hk₂ _ o (by simpa using Ne.symm ne.1) e) hm' (news_but N' hk₂ fun p hp => by
          rcases List.mem_cons.mp hp with rfl | hp
          · exact Ne.symm ne.2.1
          · exact (off3 p hp).1) off'
  exact compStart_in loop (W.self 0 _ _ _ hst0 loop)

def End2 (h₀ : Heap) (L : Addr) (m : Str → Option Value) (s₁ : Shared) (I2 : Addr) (oI2 : Obj) (I : Addr) (oI : Obj) (C : Addr) (oC : Obj) (D : Addr) (oD : Obj) (rest : Value → List (Addr × Obj) → Prop) (y : Value) (s₂ : Shared) : Prop :=
  ∃ h' tk news', s₂ = { s₁ with heap := h', toks := tk } ∧ Fr h₀ L h' m ∧ News h₀ L h' ((I2, oI2) :: (C, oC) :: (D, oD) :: (I, oI) :: news') ∧ Off3 I2 C D news' ∧ Off3 I C D news' ∧ rest y news'
def Src2 (h₀ : Heap) (L : Addr) (m : Str → Option Value) (s₁ : Shared) (I : Addr) (oI : Obj) (C : Addr) (oC : Obj) (D : Addr) (oD : Obj) (a : Int) (k : Nat) (rest : List (Addr × Obj) → Prop) (xv : Value) (s₂ : Shared) : Prop :=
  ∃ h' tk r b t u v news', s₂ = { s₁ with heap := h', toks := tk } ∧ xv = .ref r ∧ Fr h₀ L h' m ∧ News h₀ L h' ((I, oI) :: (C, oC) :: (D, oD) :: news') ∧ Off3 I C D news' ∧ IsRange h' r a b 1 t u v ∧ Builtin.Range.small a b 1 = true ∧ Builtin.Range.rangeSize a b 1 = ((k : Nat) : Int) ∧ rest news'
structure Rest2 (prog : Program) (w : World) (A : Around) (h₀ : Heap) (L : Addr) (m : Str → Option Value) (env : Env) (elt i2 : Expr) (x y : Str) (scope : Scope) (cl : List (Str × Addr)) (s : Shared) (Fin : List Value → List (Addr × Obj) → Prop) (n : Nat) (news₀ : List (Addr × Obj))
    (J : Nat → List Value → List (Addr × Obj) → Prop) (J2 : Nat → Nat → List Value → List (Addr × Obj) → Prop) (k : Nat → Nat) (a2 : Nat → Int) : Prop where
  start : J 0 [] news₀
  size : ∀ i ys news, i < n → J i ys news → ys.length + k i ≤ sizeLine
  outer : ∀ i ys news, i < n → J i ys news → ∀ I oI C oC D m₂ h tk (E' : Value → Shared → Prop) t, NsObj oC m₂ → m₂ x = some (.int (i : Int) t) → Fr h₀ L h m → News h₀ L h ((I, oI) :: (C, oC) :: (D, lst ys) :: news) → Off3 I C D news → ((@Ne Nat I C) ∧ (@Ne Nat I D) ∧ (@Ne Nat C D)) →
    wpAny (model prog w) A (eval i2 (compEnvC scope cl C env)) (Src2 h₀ L m { s with heap := h, toks := tk } I oI C oC D (lst ys) (a2 i) (k i) (fun news' => J2 i 0 ys news')) E' { s with heap := h, toks := tk }
  inner : ∀ i j ys news, i < n → j < k i → J2 i j ys news → ∀ I2 oI2 I oI C oC D m₂ h tk (E' : Value → Shared → Prop) t t', NsObj oC m₂ → m₂ x = some (.int (i : Int) t) → m₂ y = some (.int (a2 i + (j : Int)) t') → Fr h₀ L h m → News h₀ L h ((I2, oI2) :: (C, oC) :: (D, lst ys) :: (I, oI) :: news) →
    Off3 I2 C D ((I, oI) :: news) → Off3 I C D news → ((@Ne Nat I2 C) ∧ (@Ne Nat I2 D) ∧ (@Ne Nat C D)) →
    wpAny (model prog w) A (eval elt (compEnvC scope cl C env)) (End2 h₀ L m { s with heap := h, toks := tk } I2 oI2 I oI C oC D (lst ys) (fun v news' => J2 i (j + 1) (ys ++ [v]) news')) E' { s with heap := h, toks := tk }
  next : ∀ i ys news, i < n → J2 i (k i) ys news → J (i + 1) ys news
  fin : ∀ ys news, J n ys news → Fin ys news

theorem outer_loop {elt i1 i2 : Expr} {x y : Str} {px py : Pos} {scope : Scope} {cl : List (Str × Addr)} {pos : Pos} {s₂ : Shared} {I C D : Addr} {n : Nat} {news₀ : List (Addr × Obj)} {m₂ : Str → Option Value} {Fin : List Value → List (Addr × Obj) → Prop}
    {J : Nat → List Value → List (Addr × Obj) → Prop} {J2 : Nat → Nat → List Value → List (Addr × Obj) → Prop} {k : Nat → Nat} {a2 : Nat → Int}
    (hh : A.handled = none) (hkind : scope.kind = .function) (hx : scope.names.lookup x = some .local) (hy : scope.names.lookup y = some .local) (hxy : x ≠ y)
    (hst : IsRangeIter s₂.heap I 0 n 1) (F : Fr h₀ L s₂.heap m) (hC : s₂.heap.Ns C m₂) (N : News h₀ L s₂.heap ((D, lst []) :: news₀)) (off : Off3 I C D news₀)
    (ne : ((@Ne Nat I C) ∧ (@Ne Nat I D) ∧ (@Ne Nat C D))) (hIL : L ≠ I) (hI₀ : h₀.get? I = none) (hCL : C ≠ L) (hC₀ : h₀.get? C = none)
    (X : Rest2 prog w A h₀ L m env elt i2 x y scope cl s₂ Fin n news₀ J J2 k a2)
    (hs : ∀ v, foldedSetIterable i2 (compEnvC scope cl C env) v = pure v)
    (done : ∀ ys news m₃ h tk, Fin ys news → Fr h₀ L h m → h.Ns C m₃ → News h₀ L h ((D, lst ys) :: news) → Off3 I C D news → R (.ok .next) { s₂ with heap := h, toks := tk }) :
    codeAny (model prog w) A (.compStart (.ListComp elt [⟨.Name x px, i1, [], 0⟩, ⟨.Name y py, i2, [], 0⟩] scope pos) 0 (.ref I) (.ref D) (compEnvC scope cl C env)) R s₂ := by
  have W : Walks prog w A I [I] [I] n (fun i v => ∃ t, v = .int (0 + (i : Int)) t) (fun i h => IsRangeIter h I (0 + (i : Nat) * 1) ((n : Int) - (i : Nat)) 1) := range_walks hh 0 n
  have hst0 : IsRangeIter s₂.heap I (0 + ((0 : Nat) : Int) * 1) ((n : Int) - ((0 : Nat) : Int)) 1 := by simpa using hst
  have loop : codeAny (model prog w) A (.compLoop (.ListComp elt [⟨.Name x px, i1, [], 0⟩, ⟨.Name y py, i2, [], 0⟩] scope pos) 0 (.ref I) (.ref D) (compEnvC scope cl C env)) R s₂ := by
    refine codeAny_loop rfl (fun k s' => ∃ h' tk i ys m₃ news', s' = { s₂ with heap := h', toks := tk } ∧ i ≤ n ∧ k = n + 1 - i ∧ IsRangeIter h' I (0 + ((i : Nat) : Int) * 1) ((n : Int) - ((i : Nat) : Int)) 1 ∧ Fr h₀ L h' m ∧ h'.Ns C m₃ ∧ News h₀ L h' ((D, lst ys) :: news') ∧ Off3 I C D news' ∧ J i ys news') ?_ (n + 1)
      ⟨s₂.heap, s₂.toks, 0, [], m₂, news₀, rfl, Nat.zero_le _, rfl, hst0, F, hC, N, off, X.start⟩
    rintro k' s' ⟨h', tk, i, ys, m₃, news', rfl, hi, rfl, hst', F', hn', N', off', hJ'⟩
    show wpAny _ A ((compTurn (.ListComp elt [⟨.Name x px, i1, [], 0⟩, ⟨.Name y py, i2, [], 0⟩] scope pos) 0 (.ref I) (.ref D) (compEnvC scope cl C env)).onRaise (fun x => do noteFrame x (compEnvC scope cl C env); theTreesLotGoes x)) _ _ _
    refine wpAny_noted ?_
    rw [compTurn_out]
    refine wpAny_bind (wpAny_standAt (wpAny_bind ?_))
    have off3 := off'.mem
    by_cases hlt : i < n
    · refine W.item i _ _ _ hlt hst' fun v h₂ tk₂ hPv hst₂ hk₂ => ?_
      obtain ⟨t, rfl⟩ := hPv
      refine wpAny_bind (wpAny_pure ?_)
      refine wpAny_bind (wpAny_assign_Name (wpAny_storeName_local (lookup_relabel_local hx) (hn'.at' fun o e => hk₂ _ o (by simpa using Ne.symm ne.1) e) (fun h₃ hn₃ hs₃ => ?_) (by simp [compEnvC, relabel, hkind])))
      have hst₃ : IsRangeIter h₃ I (0 + ((i + 1 : Nat) : Int) * 1) ((n : Int) - ((i + 1 : Nat) : Int)) 1 := W.frame (i + 1) _ _ hst₂ fun b hb o e => hs₃.extBut b o (fun q => ne.1 (by rw [← List.mem_singleton.mp hb]; exact q)) e
      obtain ⟨oI, heI⟩ : ∃ oI, h₃.get? I = some oI := ⟨_, hst₃⟩
      obtain ⟨oC, heC, hoC⟩ := ns_obj hn₃
      have hDL : D ≠ L := (N' _ List.mem_cons_self).2.1
      have hD₀ : h₀.get? D = none := (N' _ List.mem_cons_self).2.2
      have F₃ : Fr h₀ L h₃ m := (fr_but F' hk₂ hIL hI₀).change hs₃ hCL hC₀
      have N₂ : News h₀ L h₂ ((D, lst ys) :: news') := news_but N' hk₂ fun p hp => by
        rcases List.mem_cons.mp hp with rfl | hp
        · exact Ne.symm ne.2.1
        · exact (off3 p hp).1
      have N₃ : News h₀ L h₃ ((I, oI) :: (C, oC) :: (D, lst ys) :: news') := fun p hp => by
        rcases List.mem_cons.mp hp with rfl | hp
        · exact ⟨heI, Ne.symm hIL, hI₀⟩
        · rcases List.mem_cons.mp hp with rfl | hp
          · exact ⟨heC, hCL, hC₀⟩
          · have z := N₂ p hp
            refine ⟨hs₃.extBut _ _ ?_ z.1, z.2⟩
            rcases List.mem_cons.mp hp with rfl | hp
            · exact Ne.symm ne.2.2
            · exact (off3 p hp).2.1
      refine wpAny_bind (wpAny_mono (X.outer i ys news' hlt hJ' I oI C oC D _ h₃ _ _ t hoC (by simp) F₃ N₃ off' ne) (fun v s₄ h₄ => ?_) fun _ _ e => e)
      obtain ⟨h₄, tk₄, r, b, t₁, t₂, t₃, news₄, rfl, rfl, F₄, N₄, off₄, hr, hsm, hsz, hJ₄⟩ := h₄
      have zI := (N₄ (I, oI) List.mem_cons_self).1
      have zC := (N₄ (C, oC) (List.mem_cons_of_mem _ List.mem_cons_self)).1
      have zD := (N₄ (D, lst ys) (List.mem_cons_of_mem _ (List.mem_cons_of_mem _ List.mem_cons_self))).1
      have N₄' : News h₀ L h₄ news₄ := fun p hp => N₄ p (List.mem_cons_of_mem _ (List.mem_cons_of_mem _ (List.mem_cons_of_mem _ hp)))
      have off4 := off₄.mem
      refine wpAny_bind (wpAny_standAt (wpAny_bind (wpAny_of_eq (hs _) (wpAny_bind (wpAny_holding (wpAny_pyIter_range hr hsm ?_))))))
      have hlt4 : ∀ b o, h₄.get? b = some o → b < h₄.objs.size := fun b o e => Heap.lt_size e
      refine wpAny_bind (wpAny_runOwn ?_)
      refine inner_loop (h₀ := h₀) (L := L) (m := m) (n := k i) (a := a2 i) (ys₀ := ys) (news₀ := (I, oI) :: news₄) (fun j ys nw => ∃ nw', nw = (I, oI) :: nw' ∧ Off3 I C D nw' ∧ J2 i j ys nw') hh hkind hy
        (by show IsRangeIter _ _ _ _ _; rw [hsz]; simpa using Heap.get?_push_size _ rfl) (F₄.push _) ((hoC.ns zC).at' fun o e => Heap.get?_push_of_some _ e) (fun p hp => ?_) (Off3.of fun p hp => ?_) ⟨?_, ?_, ne.2.2⟩ (Nat.ne_of_lt F₄.ns.lt) (next_is_new F₄) hCL hC₀ ⟨news₄, rfl, off₄, hJ₄⟩ (X.size i ys news' hlt hJ') ?_ ?_
      · rcases List.mem_cons.mp hp with rfl | hp
        · exact ⟨Heap.get?_push_of_some _ zD, hDL, hD₀⟩
        · rcases List.mem_cons.mp hp with rfl | hp
          · exact ⟨Heap.get?_push_of_some _ zI, Ne.symm hIL, hI₀⟩
          · exact ⟨Heap.get?_push_of_some _ (N₄' p hp).1, (N₄' p hp).2⟩
      · rcases List.mem_cons.mp hp with rfl | hp
        · exact ⟨Nat.ne_of_lt (hlt4 _ _ zI), ne.1, ne.2.1⟩
        · exact ⟨Nat.ne_of_lt (hlt4 _ _ (N₄' p hp).1), (off4 p hp).2⟩
      · exact Nat.ne_of_gt (hlt4 _ _ zC)
      · exact Nat.ne_of_gt (hlt4 _ _ zD)
      · rintro j ys₅ nw hj ⟨nw', rfl, offn, hJ₅⟩ oI₂ oC₅ m₅ h₅ tk₅ E' t₅ hoC₅ hm₅ hy₅ F₅ N₅ off₅
        refine wpAny_mono (X.inner i j ys₅ nw' hlt hj hJ₅ _ oI₂ I oI C oC₅ D m₅ h₅ tk₅ E' t t₅ hoC₅ (by rw [hm₅ x hxy]; simp) hy₅ F₅ N₅ off₅ offn ⟨Nat.ne_of_gt (hlt4 _ _ zC), Nat.ne_of_gt (hlt4 _ _ zD), ne.2.2⟩) (fun v s₆ h₆ => ?_) fun _ _ e => e
        obtain ⟨h₆, tk₆, nw₆, rfl, F₆, N₆, off₆, off₆', hJ₆⟩ := h₆
        exact ⟨h₆, tk₆, (I, oI) :: nw₆, rfl, F₆, N₆, ⟨⟨Nat.ne_of_lt (hlt4 _ _ zI), ne.1, ne.2.1⟩, off₆⟩, trivial, nw₆, rfl, off₆', hJ₆⟩
      · rintro ys₅ nw m₅ h₅ tk₅ ⟨nw', rfl, offn, hJ₅⟩ hyl F₅ hn₅ _ N₅ off₅
        refine wpAny_pure ⟨rfl, n + 1 - (i + 1), by omega, h₅, tk₅, i + 1, ys₅, m₅, nw', rfl, hlt, rfl, ?_, F₅, hn₅, fun p hp => ?_, offn, X.next i ys₅ nw' hlt hJ₅⟩
        · have e1 : h₅.get? I = some oI := (N₅ (I, oI) (List.mem_cons_of_mem _ List.mem_cons_self)).1
          have e2 : h₃.get? I = some _ := hst₃
          show h₅.get? I = some _
          rw [e1, ← heI]
          exact e2
        · rcases List.mem_cons.mp hp with rfl | hp
          · exact N₅ _ List.mem_cons_self
          · exact N₅ p (List.mem_cons_of_mem _ (List.mem_cons_of_mem _ hp))
    · obtain rfl : i = n := Nat.le_antisymm hi (Nat.not_lt.mp hlt)
      refine W.done _ _ _ hst' fun h₂ tk₂ hk₂ => ?_
      refine wpAny_pure ?_
      exact done ys news' m₃ h₂ tk₂ (X.fin _ _ hJ') (fr_but F' hk₂ hIL hI₀) (hn'.at' fun o e => hk₂ _ o (by simpa using Ne.symm ne.1) e) (news_but N' hk₂ fun p hp => by
          rcases List.mem_cons.mp hp with rfl | hp
          · exact Ne.symm ne.2.1
          · exact (off3 p hp).1) off'
  exact codeAny_compStart_list loop (W.self 0 _ _ _ hst0 loop)

def Src1 (prog : Program) (w : World) (A : Around) (h₀ : Heap) (L : Addr) (m : Str → Option Value) (env : Env) (elt i2 : Expr) (x y : Str) (scope : Scope) (cl : List (Str × Addr)) (Fin : Shared → List Value → List (Addr × Obj) → Prop) (xv : Value) (s₁ : Shared) : Prop :=
  ∃ r b t u v n news, xv = .ref r ∧ A.handled = none ∧ Fr h₀ L s₁.heap m ∧ News h₀ L s₁.heap news ∧ IsRange s₁.heap r 0 b 1 t u v ∧ Builtin.Range.small 0 b 1 = true ∧ Builtin.Range.rangeSize 0 b 1 = ((n : Nat) : Int) ∧
      ∀ s₂ : Shared, (∃ h tk, s₂ = { s₁ with heap := h, toks := tk }) → ∃ J J2 k a2, Rest2 prog w A h₀ L m env elt i2 x y scope cl s₂ (Fin s₂) n news J J2 k a2
theorem comp_open {scope : Scope} {cl : List (Str × Addr)} {s₂ : Shared} {I : Addr} {oI : Obj} {news : List (Addr × Obj)} {P : Value → Env → Shared → Prop}
    (hcell : ∀ y ∈ scope.names, y.2 ≠ .cell) (hkind : scope.kind = .function) (F : Fr h₀ L s₂.heap m) (N : News h₀ L s₂.heap news) (hI : s₂.heap.get? I = some oI) (off : ∀ p ∈ news, p.1 ≠ I)
    (go : ∀ C D h₁ tk (cenv : Env), cenv.locals = C → { cenv with scope := relabel scope env } = compEnvC scope cl C env → Fr h₀ L h₁ m → h₁.Ns C (fun _ => none) → h₁.get? I = some oI → News h₀ L h₁ ((D, lst []) :: news) → Off3 I C D news → ((@Ne Nat I C) ∧ (@Ne Nat I D) ∧ (@Ne Nat C D)) → C ≠ L → h₀.get? C = none → (∀ b o, s₂.heap.get? b = some o → h₁.get? b = some o) →
      P (.ref D) cenv { s₂ with heap := h₁, toks := tk }) :
    wpAny (model prog w) A (newList []) (fun acc s₃ => wpAny (model prog w) A (newFunctionEnv scope env.globals cl [] env.qual none .none (some env)) (fun cenv s₄ => P acc cenv s₄) E s₃) E s₂ := by
  refine wpAny_newObj_type (wpAny_newFunctionEnv hcell (by intro y hy; simp at hy) (fun h₁ hns₁ hsb₁ => ?_) hkind)
  dsimp only at hns₁ hsb₁ ⊢
  generalize hH2 : s₂.heap.push { cls := .type "list", dict := none, data := .seq ([] : List Value).toArray } = H2 at hns₁ hsb₁ ⊢
  have hC : H2.objs.size = s₂.heap.objs.size + 1 := by rw [← hH2, Heap.size_push]
  have hDC : s₂.heap.objs.size ≠ H2.objs.size := by rw [hC]; exact Nat.ne_of_lt (Nat.lt_succ_self _)
  have below : ∀ b, b < s₂.heap.objs.size → b ≠ H2.objs.size ∧ b ≠ s₂.heap.objs.size := fun b hb => ⟨by rw [hC]; exact Nat.ne_of_lt (Nat.lt_succ_of_lt hb), Nat.ne_of_lt hb⟩
  have hIlt : I < s₂.heap.objs.size := Heap.lt_size hI
  have old : ∀ b o, s₂.heap.get? b = some o → h₁.get? b = some o := fun b o e => hsb₁.extBut b o (below b (Heap.lt_size e)).1 (Heap.get?_push_of_some _ (hH2 ▸ Heap.get?_push_of_some _ e))
  have hacc : h₁.get? s₂.heap.objs.size = some (lst []) := hsb₁.extBut _ _ hDC (Heap.get?_push_of_some _ (hH2 ▸ Heap.get?_push_size _ rfl))
  have fresh₀ : ∀ a, s₂.heap.objs.size ≤ a → h₀.get? a = none := fun a ha => by
    cases e : h₀.get? a with
    | none => rfl
    | some o' => exact absurd (Heap.lt_size (F.keep a o' e)) (Nat.not_lt.mpr ha)
  have hLlt : L < s₂.heap.objs.size := F.ns.lt
  refine go H2.objs.size s₂.heap.objs.size h₁ _ _ rfl rfl (F.keeps old) hns₁ (old _ _ hI) (fun p hp => ?_) (Off3.of fun p hp => ⟨off p hp, (below _ (Heap.lt_size (N p hp).1)).1, (below _ (Heap.lt_size (N p hp).1)).2⟩) ⟨(below I hIlt).1, (below I hIlt).2, Ne.symm hDC⟩ (Ne.symm (below L hLlt).1) (fresh₀ _ (by rw [hC]; exact Nat.le_succ _)) old
  rcases List.mem_cons.mp hp with rfl | hp
  · exact ⟨hacc, Ne.symm (below L hLlt).2, fresh₀ _ (Nat.le_refl _)⟩
  · exact ⟨old _ _ (N p hp).1, (N p hp).2⟩

theorem ListComp2 {elt i1 i2 : Expr} {x y : Str} {px py : Pos} {scope : Scope} {cl : List (Str × Addr)} {pos : Pos} {Q : Value → Shared → Prop} (_F₀ : Fr h₀ L s.heap m)
    (hclos : closureFor scope env = pure cl) (hcell : ∀ y ∈ scope.names, y.2 ≠ .cell) (hkind : scope.kind = .function)
    (hnames : ∀ y ∈ scope.names, y.2 = .local → scope.names.lookup y.1 = some .local) (hx : scope.names.lookup x = some .local) (hy : scope.names.lookup y = some .local) (hxy : x ≠ y)
    (hs2 : ∀ C v, foldedSetIterable i2 (compEnvC scope cl C env) v = pure v)
    (h : wpAny (model prog w) A (eval i1 env) (Src1 prog w A h₀ L m env elt i2 x y scope cl (fun s₂ => FinE h₀ L m s₂ Q)) E s)
    (hs : ∀ x, foldedSetIterable i1 env x = pure x := by intro _; rfl) :
    wpAny (model prog w) A (eval (.ListComp elt [⟨.Name x px, i1, [], 0⟩, ⟨.Name y py, i2, [], 0⟩] scope pos) env) Q E s := by
  rw [eval_ListComp]
  refine wpAny_comprehension_free (use := none) rfl hs hclos hkind hnames (wpAny_mono h (fun xv s₁ h₁ => ?_) fun _ _ e => e)
  obtain ⟨r, b, t, u, v, n, news, rfl, hh, F, N, hr, hsm, hn, Rr⟩ := h₁
  refine wpAny_pyIter_range hr hsm ?_
  have hnew := next_is_new F
  refine comp_open (h₀ := h₀) (L := L) (m := m) (news := news) (I := s₁.heap.objs.size) hcell hkind (F.push _) (fun p hp => ⟨Heap.get?_push_of_some _ (N p hp).1, (N p hp).2⟩) (Heap.get?_push_size _ rfl) (fun p hp => Nat.ne_of_lt (Heap.lt_size (N p hp).1)) fun C D h₁ tk cenv hC hce F₁ hn₁ hI₁ N₁ off₁ ne₁ hCL hC₀ old => ?_
  obtain ⟨J, J2, k, a2, X⟩ := Rr { s₁ with heap := h₁, toks := tk } ⟨_, _, rfl⟩
  rw [hce]
  refine outer_loop (s₂ := { s₁ with heap := h₁, toks := tk }) (h₀ := h₀) (L := L) (m := m) (n := n) (news₀ := news) hh hkind hx hy hxy (by show IsRangeIter _ _ _ _ _; rw [← hn]; exact hI₁) F₁ hn₁ N₁ off₁ ne₁ (Nat.ne_of_lt F.ns.lt) hnew hCL hC₀ X (hs2 C) ?_
  intro ys nw m₃ h₂ tk₂ hfin F₂ hn₂ N₂ off₂
  subst hC
  refine ⟨m₃, hn₂, fun h' hs' => hfin D h' tk₂ (F₂.change hs' hCL hC₀) (fun p hp => ⟨hs'.extBut _ _ (fun e => ?_) (N₂ p hp).1, (N₂ p hp).2⟩) off₂.one⟩
  rcases List.mem_cons.mp hp with rfl | hp
  · exact ne₁.2.2 e.symm
  · exact (off₂.mem p hp).2.1 e
theorem Assign_ListComp2 {elt i1 i2 : Expr} {x y v : Str} {px py pv : Pos} {scope : Scope} {cl : List (Str × Addr)} {pos spos : Pos} {Q : Flow → Shared → Prop} (_F₀ : Fr h₀ L s.heap m) (hLe : env.locals = L)
    (hsw : swapsWith (.ListComp elt [⟨.Name x px, i1, [], 0⟩, ⟨.Name y py, i2, [], 0⟩] scope pos) (some (.Name v pv)) spos.line env = pure true)
    (hclos : closureFor scope env = pure cl) (hcell : ∀ y ∈ scope.names, y.2 ≠ .cell) (hkind : scope.kind = .function)
    (hnames : ∀ y ∈ scope.names, y.2 = .local → scope.names.lookup y.1 = some .local) (hx : scope.names.lookup x = some .local) (hy : scope.names.lookup y = some .local) (hxy : x ≠ y)
    (hv : env.kindOf v = some .local) (hp : (env.scope.kind == .class || (env.scope.kind == .module && env.locals != env.globals)) = false)
    (hs2 : ∀ C v, foldedSetIterable i2 (compEnvC scope cl C env) v = pure v)
    (h : wpAny (model prog w) A (eval i1 env) (Src1 prog w A h₀ L m env elt i2 x y scope cl (fun s₂ => FinA h₀ L m s₂ v Q)) E s)
    (hs : ∀ x, foldedSetIterable i1 env x = pure x := by intro _; rfl) :
    wpAny (model prog w) A (exec (.Assign [.Name v pv] (.ListComp elt [⟨.Name x px, i1, [], 0⟩, ⟨.Name y py, i2, [], 0⟩] scope pos) spos) env) Q E s := by
  rw [exec_Assign_Name_used _ _ _ _ hsw]
  refine wpAny_bind (wpAny_standAt (wpAny_bind ?_))
  show wpAny _ A (do let _ ← comprehension (.ListComp elt [⟨.Name x px, i1, [], 0⟩, ⟨.Name y py, i2, [], 0⟩] scope pos) scope env _ (newList []) false (eval i1 env) (some (assign (.Name v pv) env))) _ _ s
  refine wpAny_bind (wpAny_mono (wpAny_comprehension_free (use := some (assign (.Name v pv) env)) (Q := fun _ s' => Q .next s') rfl hs hclos hkind hnames
    (wpAny_mono h (fun xv s₁ h₁ => ?_) fun _ _ e => e)) (fun _ s' hq => wpAny_pure (wpAny_pure hq)) fun _ _ e => e)
  obtain ⟨r, b, t, u, v', n, news, rfl, hh, F, N, hr, hsm, hn, Rr⟩ := h₁
  refine wpAny_pyIter_range hr hsm ?_
  have hnew := next_is_new F
  refine comp_open (h₀ := h₀) (L := L) (m := m) (news := news) (I := s₁.heap.objs.size) hcell hkind (F.push _) (fun p hp => ⟨Heap.get?_push_of_some _ (N p hp).1, (N p hp).2⟩) (Heap.get?_push_size _ rfl) (fun p hp => Nat.ne_of_lt (Heap.lt_size (N p hp).1)) fun C D h₁ tk cenv hC hce F₁ hn₁ hI₁ N₁ off₁ ne₁ hCL hC₀ old => ?_
  obtain ⟨J, J2, k, a2, X⟩ := Rr { s₁ with heap := h₁, toks := tk } ⟨_, _, rfl⟩
  rw [hce]
  refine outer_loop (s₂ := { s₁ with heap := h₁, toks := tk }) (h₀ := h₀) (L := L) (m := m) (n := n) (news₀ := news) hh hkind hx hy hxy (by show IsRangeIter _ _ _ _ _; rw [← hn]; exact hI₁) F₁ hn₁ N₁ off₁ ne₁ (Nat.ne_of_lt F.ns.lt) hnew hCL hC₀ X (hs2 C) ?_
  intro ys nw m₃ h₂ tk₂ hfin F₂ hn₂ N₂ off₂
  subst hC
  subst hLe
  show wpAny _ A (assign (.Name v pv) env (.ref D)) _ _ _
  refine wpAny_assign_Name (wpAny_storeName_local hv F₂.ns (fun h₃ hn₃ hs₃ => ?_) hp)
  have hL₀ : h₀.get? env.locals = none := Heap.get?_none_of_le F₂.above
  have F₃ : Fr h₀ env.locals h₃ (fun z => if z = v then some (.ref D) else m z) := ⟨hn₃, fun b o e => hs₃.extBut b o (fun q => by rw [q, hL₀] at e; cases e) (F₂.keep b o e), F₂.above⟩
  refine ⟨m₃, hn₂.sameBut hs₃ hCL, fun h' hs' => hfin D h' _ (F₃.change hs' hCL hC₀) (fun p hp => ?_) off₂.one⟩
  have z : h₃.get? p.1 = some p.2 := hs₃.extBut _ _ (N₂ p hp).2.1 (N₂ p hp).1
  refine ⟨hs'.extBut _ _ (fun e => ?_) z, (N₂ p hp).2⟩
  rcases List.mem_cons.mp hp with rfl | hp
  · exact ne₁.2.2 e.symm
  · exact (off₂.mem p hp).2.1 e
end
end Mine
end

/-! ## CompG -/
section
open PySem PySem.W PyProof.Rows PySem.Calls PyProof.V PySem.Spec
set_option maxRecDepth 100000
set_option maxHeartbeats 8000000
namespace Mine
open PyProof.Rows.LCg
section
variable {M : Model} {A : Around} {E : Value → Shared → Prop} {s : Shared} {env : Env}
theorem wpG_attempt {α : Type} {m : Sem α} {Q : Except Value α → Shared → Prop} (h : wpG M A m (fun a => Q (.ok a)) (fun e => Q (.error e)) s) :
    wpG M A m.attempt Q E s := fun Γ p hΓ hn => by rw [Sem.wp_attempt]; exact h Γ p hΓ hn
theorem codeG_loop {c : Code} {R : Result → Shared → Prop} (hd : isDec c = false) (hq : c.quiet = true) (I : Nat → Shared → Prop)
    (turn : ∀ n s, I n s → wpG M (A.under c) (M.den c)
      (fun fin s' => match fin with | .done f => R (.ok f) s' | .again c' => c' = c ∧ ∃ m, m < n ∧ I m s') (fun e s' => R (.error e) s') s)
    (n : Nat) (h : I n s) : codeG M A c R s := by
  induction n using Nat.strongRecOn generalizing s with
  | ind n ih =>
    refine codeG_of_tree hd (wpG_mono (turn n s h) (fun fin s' hf => ?_) fun _ _ h' => h')
    cases fin with
    | done f => exact hf
    | again c' => obtain ⟨rfl, m, hm, hI⟩ := hf; exact ⟨hq, ih m hm hI⟩
theorem wpG_noRaise {α : Type} {m : Sem α} {k : Value → Sem Unit} {Q : α → Shared → Prop} (h : wpG M A m Q (fun _ _ => False) s) : wpG M A (m.onRaise k) Q E s :=
  wpG_onRaise (wpG_mono h (fun _ _ q => q) fun _ _ hx => hx.elim)
theorem wpG_comprehension {e : Expr} {scope : Scope} {pos : Pos} {newAcc first : Sem Value} {g : Comprehension} {gs : List Comprehension} {cl : List (Str × Addr)}
    {Q : Value → Shared → Prop}
    (hcl : clausesOf e = g :: gs) (hs : ∀ x, foldedSetIterable g.iter env x = pure x) (hclos : closureFor scope env = pure cl)
    (hkind : scope.kind = .function) (hnames : ∀ x ∈ scope.names, x.2 = .local → scope.names.lookup x.1 = some .local)
    (h : wpAny M A first (fun x s₁ => wpAny M A (pyIter x) (fun it s₂ => wpAny M A newAcc (fun acc s₃ =>
      wpAny M A (newFunctionEnv scope env.globals cl [] env.qual none .none (some env)) (fun cenv s₄ =>
        codeG M A (.compStart e 0 it acc { cenv with scope := relabel scope env }) (fun r s' => match r with | .ok _ => ∃ m, s'.heap.Ns cenv.locals m ∧ ∀ h', Heap.SameBut cenv.locals s'.heap h' → Q acc { s' with heap := h' } | .error _ => False) s₄) E s₃) E s₂) E s₁) E s) :
    wpG M A (comprehension e scope env pos newAcc false first none) Q E s := by
  unfold comprehension
  rw [hclos, hcl]
  refine wpG_bindA (wpAny_mono h (fun x s₁ h₁ => wpG_bindA (wpAny_standAt (wpG_bindA (wpAny_of_eq (hs x) (wpG_bindA (wpAny_holding (wpAny_mono h₁ (fun it s₂ h₂ =>
    ?_)
      fun _ _ h' => h'))))))) fun _ _ h' => h')
  dsimp only [Option.isSome_none]
  refine wpG_bindA (wpAny_mono h₂ (fun acc s₃ h₃ => wpG_bindA (wpAny_pure (wpG_bindA (wpAny_mono h₃ (fun cenv s₄ h₄ => ?_) fun _ _ h' => h')))) fun _ _ h' => h')
  have hv : ∀ x ∈ (scope.names.filter fun x => (x.2 == .local || x.2 == .cell) && x.1 != (".0" : Str)).reverse, x.2 = .local →
      Env.kindOf { cenv with scope := relabel scope env } x.1 = some .local := fun x hx hl => lookup_relabel_local (hnames x (List.mem_filter.mp (List.mem_reverse.mp hx)).1 hl)
  refine wpG_holding (wpG_bind (wpG_attempt (wpG_holding (wpG_run (codeG_mono h₄ fun r s' hr => ?_)))))
  cases r with
  | ok f =>
    obtain ⟨m, hn, hr⟩ := hr
    exact wpG_bindA (wpAny_holding (wpAny_comp_letGo (cenv := { cenv with scope := relabel scope env }) hkind _ s' m hv hn fun h' m' _ hs' => wpG_pure (hr h' hs')))
  | error x => exact hr.elim
end
section
variable {prog : Program} {w : World} {A : Around} {E : Value → Shared → Prop} {s : Shared} {h₀ : Heap} {L : Addr} {m : Str → Option Value} {env : Env} {R : Result → Shared → Prop}
theorem wpG_tests_one {env : Env} {c : Expr} {Q : Bool → Shared → Prop} (h : wpG (model prog w) A (isTrue c env (eval c env)) Q E s) :
    wpG (model prog w) A (forIn [c] true fun c r => if r = true then do let ok ← isTrue c env (eval c env); pure (ForInStep.yield ok) else pure (ForInStep.yield r)) Q E s := by
  simp only [List.forIn_cons, List.forIn_nil, if_true]
  exact wpG_bind (wpG_bind (wpG_mono h (fun b s' hb => wpG_pure (wpG_pure hb)) fun _ _ x => x))
theorem compStartG {elt t1 i1 c : Expr} {scope : Scope} {pos : Pos} {it acc : Value} {env : Env}
    (h0 : codeG (model prog w) A (.compLoop (.ListComp elt [⟨t1, i1, [c], 0⟩] scope pos) 0 it acc env) R s)
    (h : wpAny (model prog w) A (pyIter it) (fun it' s' => codeG (model prog w) A (.compLoop (.ListComp elt [⟨t1, i1, [c], 0⟩] scope pos) 0 it' acc env) R s')
      (fun _ _ => False) s) :
    codeG (model prog w) A (.compStart (.ListComp elt [⟨t1, i1, [c], 0⟩] scope pos) 0 it acc env) R s := by
  refine codeG_of_tree rfl ?_
  show wpG _ _ ((compStart (.ListComp elt [⟨t1, i1, [c], 0⟩] scope pos) 0 it acc env).onRaise (fun x => do noteFrame x env; standAt theWindowsPlace)) _ _ s
  refine wpG_noRaise (.any ?_)
  unfold compStart
  show wpAny _ _ (ask >>= _) _ _ s
  refine wpAny_bind (wpAny_askSetting (wpAny_ite ?_))
  split
  · first
      | exact wpAny_bind (wpAny_pure (wpAny_pure (And.intro rfl h0)))
      | exact wpAny_pure (And.intro rfl h0)
  · first
      | exact wpAny_bind (wpAny_rule (wpAny_bind (wpAny_standAt (wpAny_bind (wpAny_mono h (fun it' s' h' => wpAny_pure (And.intro rfl h')) fun _ _ x => x)))))
      | (refine wpAny_bind (wpAny_rule ?_); show wpAny _ _ (standAt i1.pos >>= _) _ _ s; exact wpAny_bind (wpAny_standAt (wpAny_bind (wpAny_mono h (fun it' s' h' => wpAny_pure (And.intro rfl h')) fun _ _ x => x))))
def SrcG (prog : Program) (w : World) (A : Around) (h₀ : Heap) (L : Addr) (m : Str → Option Value) (env : Env) (c : Expr) (x y : Str) (scope : Scope) (cl : List (Str × Addr)) (Q : Value → Shared → Prop) (xv : Value) (s₁ : Shared) : Prop :=
  ∃ (ax : Addr) (its : Array Value) (news : List (Addr × Obj)), xv = .ref ax ∧ A.handled = none ∧ Fr h₀ L s₁.heap m ∧ News h₀ L s₁.heap news ∧ SrcAt h₀ ax its news ∧
      (∀ (i : Nat) (v : Value), its[i]? = some v → ∃ (t : Addr) (ot : Obj) (v₁ v₂ : Value) (nt : Nat), v = .ref t ∧ (t, ot) ∈ news ∧ ot.cls = .type "tuple" ∧ ot.data = .seq #[v₁, v₂] nt ∧
        ∀ I oI C oC D m₂ h tk, NsObj oC m₂ → m₂ x = some v₁ → m₂ y = some v₂ → Fr h₀ L h m → News h₀ L h ((I, oI) :: (C, oC) :: (D, lst []) :: news) → Off3 I C D news → ((@Ne Nat I C) ∧ (@Ne Nat I D) ∧ (@Ne Nat C D)) →
          wpG (model prog w) A (isTrue c (compEnvC scope cl C env) (eval c (compEnvC scope cl C env))) (fun ok s₃ => ok = false ∧ ∃ h' tk', s₃ = { s₁ with heap := h', toks := tk' } ∧ Fr h₀ L h' m ∧ News h₀ L h' ((I, oI) :: (C, oC) :: (D, lst []) :: news)) (fun _ _ => False) { s₁ with heap := h, toks := tk }) ∧
      FinE h₀ L m s₁ Q [] news
/-- a comprehension over a list of pairs whose test always says no -/
theorem ListCompG {elt i1 c : Expr} {x y : Str} {px py tp : Pos} {kk : Nat} {scope : Scope} {cl : List (Str × Addr)} {pos : Pos} {Q : Value → Shared → Prop} (_F₀ : Fr h₀ L s.heap m)
    (hclos : closureFor scope env = pure cl) (hcell : ∀ y ∈ scope.names, y.2 ≠ .cell) (hkind : scope.kind = .function)
    (hnames : ∀ y ∈ scope.names, y.2 = .local → scope.names.lookup y.1 = some .local) (hx : scope.names.lookup x = some .local) (hy : scope.names.lookup y = some .local) (hxy : x ≠ y)
    (h : wpAny (model prog w) A (eval i1 env) (SrcG prog w A h₀ L m env c x y scope cl Q) E s)
    (hs : ∀ x, foldedSetIterable i1 env x = pure x := by intro _; rfl) :
    wpG (model prog w) A (eval (.ListComp elt [⟨.Tuple [.Name x px, .Name y py] kk tp, i1, [c], 0⟩] scope pos) env) Q E s := by
  rw [eval_ListComp]
  refine wpG_comprehension rfl hs hclos hkind hnames (wpAny_mono h (fun xv s₁ h₁ => ?_) fun _ _ e => e)
  obtain ⟨ax, its, news, rfl, hh, F, N, S, T, hfin⟩ := h₁
  have hl := S.list F.keep N
  have hlt : ax < s₁.heap.objs.size := by obtain ⟨_, e, _⟩ := hl; exact Heap.lt_size e
  refine wpAny_pyIter_list hl ?_
  have up : ∀ b o, s₁.heap.get? b = some o → (s₁.heap.push { cls := .type "list_iterator", data := .fields #[.ref ax, .int 0 0] }).get? b = some o := fun b o e => Heap.get?_push_of_some _ e
  have hnew := next_is_new F
  have hIL : L ≠ s₁.heap.objs.size := Nat.ne_of_lt F.ns.lt
  have W : Walks prog w A s₁.heap.objs.size _ _ its.size _ _ := Walks.list hh s₁.heap.objs.size ax (Nat.ne_of_lt hlt) its
  have hit₀ : (s₁.heap.push { cls := .type "list_iterator", data := .fields #[.ref ax, .int 0 0] }).IsListIter s₁.heap.objs.size ax 0 := ⟨_, Heap.get?_push_size _ rfl, rfl, rfl⟩
  refine comp_open (h₀ := h₀) (L := L) (m := m) (news := news) (I := s₁.heap.objs.size) hcell hkind (F.keeps up) (N.grown up) (Heap.get?_push_size _ rfl) (fun p hp => Nat.ne_of_lt (Heap.lt_size (N p hp).1)) fun C D h₁ tk cenv hC hce F₁ hn₁ hI₁ N₁ off₁ ne₁ hCL hC₀ old => ?_
  rw [hce]
  subst hC
  generalize hIe : s₁.heap.objs.size = I at *
  have off3 := off₁.mem
  have hst₁ : h₁.IsListIter I ax 0 ∧ h₁.IsList ax its := by
    refine ⟨?_, S.list F₁.keep (fun p hp => N₁ p (List.mem_cons_of_mem _ hp))⟩
    obtain ⟨o, e, r⟩ := hit₀
    exact ⟨o, old _ _ e, r⟩
  have hDL : D ≠ L := (N₁ _ List.mem_cons_self).2.1
  have hD₀ : h₀.get? D = none := (N₁ _ List.mem_cons_self).2.2
  have loop : codeG (model prog w) A (.compLoop (.ListComp elt [⟨.Tuple [.Name x px, .Name y py] kk tp, i1, [c], 0⟩] scope pos) 0 (.ref I) (.ref D) (compEnvC scope cl cenv.locals env)) (fun r s' => match r with | .ok _ => ∃ m, s'.heap.Ns cenv.locals m ∧ ∀ h', Heap.SameBut cenv.locals s'.heap h' → Q (.ref D) { s' with heap := h' } | .error _ => False) { s₁ with heap := h₁, toks := tk } := by
    refine codeG_loop rfl rfl (fun k s' => ∃ h' tk i m₃, s' = { s₁ with heap := h', toks := tk } ∧ i ≤ its.size ∧ k = its.size + 1 - i ∧ (h'.IsListIter I ax i ∧ h'.IsList ax its) ∧ Fr h₀ L h' m ∧ h'.Ns cenv.locals m₃ ∧ News h₀ L h' ((D, lst []) :: news)) ?_ (its.size + 1)
      ⟨h₁, tk, 0, _, rfl, Nat.zero_le _, rfl, hst₁, F₁, hn₁, N₁⟩
    rintro k' s' ⟨h', tk', i, m₃, rfl, hi, rfl, hst', F', hn', N'⟩
    show wpG _ A ((compTurn (.ListComp elt [⟨.Tuple [.Name x px, .Name y py] kk tp, i1, [c], 0⟩] scope pos) 0 (.ref I) (.ref D) (compEnvC scope cl cenv.locals env)).onRaise (fun x => do noteFrame x (compEnvC scope cl cenv.locals env); theTreesLotGoes x)) _ _ _
    refine wpG_noRaise ?_
    rw [compTurn_list]
    refine wpG_bindA (wpAny_standAt (wpG_bindA ?_))
    by_cases hlt : i < its.size
    · refine W.item i _ _ _ hlt hst' fun v h₂ tk₂ hPv hst₂ hk₂ => ?_
      obtain ⟨t, ot, v₁, v₂, nt, rfl, hmt, hct, hdt, T'⟩ := T i v hPv
      have N₂ : News h₀ L h₂ ((D, lst []) :: news) := news_but N' hk₂ fun p hp => by
        rcases List.mem_cons.mp hp with rfl | hp
        · exact Ne.symm ne₁.2.1
        · exact (off3 p hp).1
      have ht : IsTup h₂ t #[v₁, v₂] := ⟨ot, (N₂ _ (List.mem_cons_of_mem _ hmt)).1, hct, nt, hdt⟩
      refine wpG_bindA (wpAny_letOwnedTupleGo_listiter hst₂.1 ?_)
      refine wpG_bindA (assign_Tuple_tuple hh ht rfl rfl fun h₅ he => ?_)
      have he' : ∀ b o, h₂.get? b = some o → h₅.get? b = some o := fun b o e => he b o (Nat.ne_of_lt (Heap.lt_size e)) e
      refine assignInOrder_cons (wpAny_assign_Name (wpAny_storeName_local (lookup_relabel_local hx) ((hn'.at' fun o e => hk₂ _ o (by simpa using Ne.symm ne₁.1) e).at' fun o e => he' _ o e) (fun h₆ hn₆ hs₆ => ?_) (by simp [compEnvC, relabel, hkind])))
      refine assignInOrder_cons (wpAny_assign_Name (wpAny_storeName_local (lookup_relabel_local hy) hn₆ (fun h₃ hn₃ hs₃ => ?_) (by simp [compEnvC, relabel, hkind])))
      refine assignInOrder_nil ?_
      have old3 : ∀ b o, b ≠ cenv.locals → h₂.get? b = some o → h₃.get? b = some o := fun b o hb e => hs₃.extBut b o hb (hs₆.extBut b o hb (he' b o e))
      have F₃ : Fr h₀ L h₃ m := (((fr_but F' hk₂ hIL hnew).keeps he').change hs₆ hCL hC₀).change hs₃ hCL hC₀
      obtain ⟨oI, heI, hcI⟩ := hst₂.1
      have heI₃ : h₃.get? I = some oI := old3 _ _ ne₁.1 heI
      obtain ⟨oC, heC, hoC⟩ := ns_obj hn₃
      have N₃ : News h₀ L h₃ ((I, oI) :: (cenv.locals, oC) :: (D, lst []) :: news) := fun p hp => by
        rcases List.mem_cons.mp hp with rfl | hp
        · exact ⟨heI₃, Ne.symm hIL, hnew⟩
        · rcases List.mem_cons.mp hp with rfl | hp
          · exact ⟨heC, hCL, hC₀⟩
          · have z := N₂ p hp
            refine ⟨old3 _ _ ?_ z.1, z.2⟩
            rcases List.mem_cons.mp hp with rfl | hp
            · exact Ne.symm ne₁.2.2
            · exact (off3 p hp).2.1
      refine wpG_bind (wpG_tests_one (wpG_mono (T' I oI cenv.locals oC D _ h₃ _ hoC (by simp [hxy]) (by simp) F₃ N₃ off₁ ne₁) (fun ok s₄ h₄ => ?_) fun _ _ e => e))
      obtain ⟨rfl, h₄, tk₄, rfl, F₄, N₄⟩ := h₄
      have zI := (N₄ (I, oI) List.mem_cons_self).1
      have zC := (N₄ (cenv.locals, oC) (List.mem_cons_of_mem _ List.mem_cons_self)).1
      refine wpG_pure ⟨rfl, its.size + 1 - (i + 1), by omega, h₄, tk₄, i + 1, _, rfl, hlt, rfl, ⟨⟨oI, zI, hcI⟩, S.list F₄.keep (fun p hp => N₄ p (List.mem_cons_of_mem _ (List.mem_cons_of_mem _ (List.mem_cons_of_mem _ hp))))⟩, F₄, hoC.ns zC, fun p hp => N₄ p (List.mem_cons_of_mem _ (List.mem_cons_of_mem _ hp))⟩
    · obtain rfl : i = its.size := Nat.le_antisymm hi (Nat.not_lt.mp hlt)
      refine W.done _ _ _ hst' fun h₂ tk₂ hk₂ => ?_
      refine wpG_pure ?_
      have F₂ := fr_but F' hk₂ hIL hnew
      have N₂ : News h₀ L h₂ ((D, lst []) :: news) := news_but N' hk₂ fun p hp => by
        rcases List.mem_cons.mp hp with rfl | hp
        · exact Ne.symm ne₁.2.1
        · exact (off3 p hp).1
      refine ⟨m₃, hn'.at' fun o e => hk₂ _ o (by simpa using Ne.symm ne₁.1) e, fun h' hs' => hfin D h' tk₂ (F₂.change hs' hCL hC₀) (fun p hp => ⟨hs'.extBut _ _ (fun e => ?_) (N₂ p hp).1, (N₂ p hp).2⟩) off₁.one⟩
      rcases List.mem_cons.mp hp with rfl | hp
      · exact ne₁.2.2 e.symm
      · exact (off3 p hp).2.1 e
  exact compStartG loop (W.self 0 _ _ _ hst₁ loop)
end
end Mine
end

/-! ## Words -/
section
open PySem PySem.W PyProof.Rows PySem.Calls PyProof.V PySem.Spec
set_option maxRecDepth 100000
set_option maxHeartbeats 8000000
namespace Mine
local macro_rules | `(tactic| ktr_enter) => `(tactic| (refine' code_defC ?k1 ?k2 ?k3 ?k4 ?k5 ?kA ?kF ?kK ?k6 ?k7 ?k8 ?k9 ?kB ?kD ?_ ?c2 ?c3 ?c4; (case kA => exact rfl); (case kF => exact rfl); (case kK => assumption); (case k1 => k_asm); (case k2 => k_asm); (case k3 => k_asm); (case k4 => k_asm); (case k5 => k_asm); (case k6 => k_is); (case k7 => k_is); (case k8 => ktr_room); (case k9 => exact BindsTo.of_eq rfl); (case kB => exact rfl); (case kD => decide +kernel); (case c2 => exact rfl); (case c3 => exact rfl); (case c4 => exact rfl); k_whole; intro g' L' h' tk' cells' FG' F' N' Y' B' X' T' l1; k_cells Y'; (try simp only [List.cons_append, List.nil_append] at N'); (try dsimp only); (try k_lift B'); (try k_fold)))
/-- the i-th word -/
def wordAt (d : Array UInt8) (wd i : Nat) : Array UInt8 := KBy.picked d (some ((i * wd : Nat) : Int)) (some (((i * wd : Nat) : Int) + (wd : Int)))
theorem words_call {w : World} {dp un : Nat} {gd : Option (List Code)} {cn : Str} {cs : Scope} {a : Addr} {ccd : Value} {cl : List (Str × Addr)} {outer : List Env} {A₀ : Around} {base h₀ : Heap} {L : Addr} {m : Str → Option Value} {news : List (Addr × Obj)} {s : Shared}
    {p : Program} {loose : List Str} {mean : ExcName → Option Value} {mg mb : Str → Option Value} {Q E : Value → Shared → Prop} {d : Array UInt8} {wd : Nat} {td tw : Tok}
    (B : Below A₀ base outer h₀) (F : Fr h₀ L s.heap m) (X : (Mine.hd.heap_39 w.params).In h₀) (N : News h₀ L s.heap news) (T : Top p loose mean mg mb h₀) (hk : cs.kind = .function)
    (hd : dp + 1 < recursionLimit) (hu : un + 8 < cLine) {c : Nat} (h1 : 1 ≤ wd) (hc : d.size = c * wd) (hcz : c ≤ 10000) (hwz : wd ≤ 10000) (hz : d.size ≤ 10000)
    (ret : ∀ D l h' tk', l.map (·.1) = (List.range c).map (wordAt d wd) → Fr h₀ L h' m → News h₀ L h' ((D, LCg.lst (bv l)) :: news) → (∀ q ∈ news, q.1 ≠ D) → Q (.ref D) { s with heap := h', toks := tk' }) :
    wpAny (model PySem.Challenge.rw_nq0008_01.row.prog w) (ktrTop dp un gd cn cs L a ccd cl outer) (call (.ref 58) [.bytes d td, .int (wd : Int) tw]) Q E s := by
  revert X; k_fill; intro X
  obtain ⟨ks, hK⟩ : ∃ ks, KBw.bInts d = ks := ⟨_, rfl⟩
  have hKl : ks.length = d.size := by rw [← hK, KBw.ints_length]
  have hKz : ks.length ≤ 10000 := by omega
  refine wpAny_call ?_
  k_dflt ktr_enter
  refine wpAny_execs_cons ?_
  refine wpAny_Return_some ?_
  refine ListComp_step (by assumption) rfl (by decide) rfl (by decide) rfl ?_
  k_steps
  have hkc : (ks.length : Int) = ((c * wd : Nat) : Int) := by rw [hKl, hc]
  refine ⟨_, 0, _, _, _, _, _, c, _, rfl, rfl, by assumption, by assumption, by assumption, range_small (by omega) (by omega) (by omega) (by omega), by rw [hkc]; exact range_size h1, by rw [sizeLine_eq]; omega, ?_⟩
  rintro s₂ ⟨hh₂, rfl⟩
  refine compRest_inv (fun i ys news₁ => news₁ = _ ∧ ∃ l, ys = bv l ∧ l.map (·.1) = (List.range i).map (wordAt d wd)) ?_ ?_ c 0 [] _ rfl ⟨rfl, [], rfl, rfl⟩
  · rintro i ys news₁ hi ⟨rfl, l, rfl, hl⟩ v I oI C oC D m₂ h₃ tk₃ E' ⟨t₃, rfl⟩ hC hx F₃ N₃ off ne
    obtain ⟨Y, hY⟩ : ∃ Y : Int, Y = 0 + (i : Int) * (wd : Int) := ⟨_, rfl⟩
    have hYi : Y = ((i * wd : Nat) : Int) := by rw [hY]; push_cast; omega
    have hiw : i * wd + wd ≤ d.size := by
      have : (i + 1) * wd ≤ c * wd := Nat.mul_le_mul_right _ hi
      rw [Nat.succ_mul] at this
      omega
    rw [← hY] at hx
    k_steps
    refine LCg.CompEnd.intro (by assumption) (by assumption) _ (fun q hq => hq) off trivial ⟨rfl, l ++ [(KBy.picked d (some Y) (some (Y + (wd : Int))), _)], by rw [bv_append]; rfl, ?_⟩
    rw [List.map_append, hl, List.range_succ, List.map_append]
    subst hYi
    rfl
  · rintro ys news₁ ⟨rfl, l, rfl, hl⟩
    intro D h₄ tk₄ F₄ N₄ off₄
    k_steps
    refine ret D l _ _ hl (by assumption) (cb_drop (by assumption) (fun q hq => ?_)) (fun q hq => off1_mem _ off₄ q (.tail _ (.tail _ hq)))
    rcases List.mem_cons.mp hq with rfl | hq
    · exact .head _
    · exact .tail _ (.tail _ (.tail _ hq))
end Mine
end

/-! ## SortB -/
section
open PySem PySem.W PyProof.Rows PySem.Calls PyProof.V PySem.Spec
set_option maxRecDepth 100000
set_option maxHeartbeats 8000000
namespace Mine
namespace FB
theorem b_slot_lt : Slot "bytes" "__lt__" "bytes.__lt__" :=
  .of (owner := "bytes") (n := "__lt__") (by rw [typeLookup_type, builtinLookup_eq_fast]; kernel_rfl) (by decide +kernel) (by decide +kernel) (by decide +kernel)
    (by first | exact .inl (by decide +kernel) | exact .inr (by decide +kernel)) (by rw [isSubtype_type]; kernel_rfl)
theorem b_entry_lt : entryFor table "bytes.__lt__" = some Builtin.«bytes.__lt__» := by first | exact entryFor_of_fast (by kernel_rfl) | exact entryFor_of_tree (by kernel_rfl)
theorem b_args_lt (a b : Value) : argsOk "bytes.__lt__" ⟨[a, b], []⟩ := by unfold argsOk; kernel_rfl
end FB
/-- the key by which bytes stand in order -/
def bkey (b : Array UInt8) : List Nat := b.toList.map UInt8.toNat
theorem order_lt : ∀ xs ys : List UInt8, (Builtin.Bytes.order xs ys == .lt) = decide (xs.map UInt8.toNat < ys.map UInt8.toNat)
  | [], [] => by simp [Builtin.Bytes.order]
  | [], _ :: _ => by simp [Builtin.Bytes.order]
  | _ :: _, [] => by simp [Builtin.Bytes.order]
  | x :: xs, y :: ys => by
    have ih := order_lt xs ys
    unfold Builtin.Bytes.order
    simp only [List.map_cons]
    by_cases h1 : x < y
    · have h2 : x.toNat < y.toNat := UInt8.lt_iff_toNat_lt.mp h1
      rw [if_pos h1, decide_eq_true (List.cons_lt_cons_iff.mpr (.inl h2))]
      rfl
    · rw [if_neg h1]
      have h2 : ¬ x.toNat < y.toNat := fun h => h1 (UInt8.lt_iff_toNat_lt.mpr h)
      by_cases h3 : x > y
      · have h4 : y.toNat < x.toNat := UInt8.lt_iff_toNat_lt.mp h3
        rw [if_pos h3, decide_eq_false]
        · rfl
        · intro h
          rcases List.cons_lt_cons_iff.mp h with h | h
          · omega
          · omega
      · rw [if_neg h3, ih]
        have h4 : ¬ y.toNat < x.toNat := fun h => h3 (UInt8.lt_iff_toNat_lt.mpr h)
        have h5 : x.toNat = y.toNat := by omega
        refine decide_eq_decide.mpr ⟨fun h => List.cons_lt_cons_iff.mpr (.inr ⟨h5, h⟩), fun h => ?_⟩
        rcases List.cons_lt_cons_iff.mp h with h | h
        · omega
        · exact h.2
abbrev bKind : KeyKind := { toKeyOrd := strKind.toKeyOrd, keyOf := fun v => match v with | .bytes b _ => some (bkey b) | _ => none, dflt := [] }
section
variable {prog : Program} {w : World} {A : Around} {E : Value → Shared → Prop} {s : Shared}
theorem call_b_lt {a b : Array UInt8} {t u : Tok} {Q : Value → Shared → Prop} (h : Q (.bool (decide (bkey a < bkey b))) s) :
    wpAny (model prog w) A (call (.builtin "bytes.__lt__") [.bytes a t, .bytes b u]) Q E s := by
  refine wpAny_call_entry FB.b_slot_lt (typeIs_bytes s a t) FB.b_entry_lt ?_ (FB.b_args_lt _ _)
  refine wpAny_bind (wpAny_of_eq (a := (Value.bytes a t, [Value.bytes b u])) rfl ?_)
  dsimp only
  refine wpAny_bind (wpAny_of_eq KBy.isInstance_eq ?_)
  refine bm_if_false rfl ?_
  refine wpAny_bind (wpAny_of_eq (a := a) rfl ?_)
  refine wpAny_bind (wpAny_of_eq (a := b) rfl ?_)
  refine wpAny_pure ⟨_, rfl, ?_⟩
  show Q (.bool (Builtin.Bytes.order a.toList b.toList == .lt)) s
  rw [order_lt]
  exact h
theorem oneLt_b {a b : Array UInt8} {t u : Tok} {Q : Bool → Shared → Prop} (h : Q (decide (bkey a < bkey b)) s) : wpAny (model prog w) A (oneLt' true (.bytes a t) (.bytes b u)) Q E s := by
  rw [oneLt'_eq]
  simp only [if_true]
  refine wpAny_bind (wpAny_cRoomFor_byValue rfl ?_)
  refine wpAny_bind (wpAny_callSpecialIfBound?_slot (typeIs_bytes s a t) FB.b_slot_lt (call_b_lt ?_))
  exact wpAny_truthy_bool h
end
theorem bKind_oneLt : bKind.OneLt := by
  intro prog w A E s x y a b Q ha hb h
  cases x <;> simp only [bKind, reduceCtorEq, Option.some.injEq] at ha
  cases y <;> simp only [bKind, reduceCtorEq, Option.some.injEq] at hb
  subst ha; subst hb
  exact oneLt_b h
theorem mapM_first_b (l : List (Array UInt8 × Tok)) : (bv l).mapM firstOfTuple' = pure ((bv l).map fun _ => none) := by
  induction l with
  | nil => rfl
  | cons x l ih =>
    show (Value.bytes x.1 x.2 :: bv l).mapM firstOfTuple' = _
    rw [List.mapM_cons, show firstOfTuple' (Value.bytes x.1 x.2) = pure none from rfl, ih]
    simp [bv]
theorem mapM_typeOf_b (l : List (Array UInt8 × Tok)) : (bv l).mapM typeOf = pure ((bv l).map fun _ => Value.type "bytes") := by
  induction l with
  | nil => rfl
  | cons x l ih =>
    show (Value.bytes x.1 x.2 :: bv l).mapM typeOf = _
    rw [List.mapM_cons, ih]
    show (pure (Value.type "bytes") >>= fun b => pure _ >>= fun bs => pure (b :: bs)) = _
    simp [bv]
theorem keyKind_b {v₁ v₂ : Value} {vs : List Value} {l : List (Array UInt8 × Tok)} (e : v₁ :: v₂ :: vs = bv l) : keyKind' (v₁ :: v₂ :: vs).toArray = pure oneType' := by
  have h1 := mapM_first_b l
  have h2 := mapM_typeOf_b l
  rw [← e] at h1 h2
  rw [keyKind'_eq, List.mapM_toArray, h1]
  simp only [map_pure, pure_bind]
  rw [if_neg (by simp), if_neg (by simp)]
  rw [oneTypeOnly'_eq, List.mapM_toArray, h2]
  simp only [map_pure, pure_bind]
  have hall : ((List.map (fun _ => Value.type "bytes") (v₁ :: v₂ :: vs)).toArray.all fun x => x == Value.type "bytes") = true := by
    simp only [List.all_toArray, List.all_map, List.all_eq_true]
    intro _ _
    rfl
  have h0 : (List.map (fun _ => Value.type "bytes") (v₁ :: v₂ :: vs)).toArray[0]? = some (Value.type "bytes") := by simp
  rw [h0]
  simp only [hall, if_true, pure_bind, Option.isSome_some]
def bOf : Value → Array UInt8 × Tok
  | .bytes b t => (b, t)
  | _ => (#[], 0)
theorem bv_mem {l : List (Array UInt8 × Tok)} {v : Value} (h : v ∈ bv l) : ∃ b t, v = .bytes b t := by
  obtain ⟨x, _, e⟩ := List.mem_map.mp h
  exact ⟨x.1, x.2, e.symm⟩
theorem bv_back (l : List (Array UInt8 × Tok)) : (bv l).map bOf = l := by
  unfold bv
  rw [List.map_map]
  exact List.map_id'' (fun _ => rfl) l
theorem bv_of {vs : List Value} (h : ∀ v ∈ vs, ∃ b t, v = .bytes b t) : bv (vs.map bOf) = vs := by
  induction vs with
  | nil => rfl
  | cons v vs ih =>
    obtain ⟨b, t, rfl⟩ := h v (.head _)
    show Value.bytes b t :: bv (vs.map bOf) = _
    rw [ih fun u hu => h u (.tail _ hu)]
theorem KK_b {xs : Array Keyed} {i : Nat} (hi : i < xs.size) {b : Array UInt8} {t : Tok} {q : Value} (hx : xs[i] = (.bytes b t, q)) : KK bKind xs i = bkey b := by
  unfold KK; rw [getElem?_pos xs i hi, hx]; rfl
theorem sorted_out_b {l : List (Array UInt8 × Tok)} {xs : Array Keyed} (hp : xs.Perm (pairsOf (bv l))) (hs : SortedToK bKind xs (pairsOf (bv l)).size) :
    ∃ l', (xs.map (·.2)).toList = bv l' ∧ l'.Perm l ∧ l'.Pairwise (fun x y => ¬ bkey y.1 < bkey x.1) := by
  have hl : xs.toList.Perm ((bv l).zip (bv l)) := by rw [← pairsOf_toList]; exact Array.perm_iff_toList_perm.mp hp
  have hmem : ∀ p, p ∈ xs.toList → p.1 = p.2 ∧ p.1 ∈ bv l := fun p hp' => mem_zip_self (hl.mem_iff.mp hp')
  refine ⟨xs.toList.map (fun p => bOf p.1), ?_, ?_, ?_⟩
  · have e : (xs.map (·.2)).toList = xs.toList.map (·.1) := by
      rw [Array.toList_map]; exact List.map_congr_left fun p hp' => (hmem p hp').1.symm
    rw [e, show xs.toList.map (fun p => bOf p.1) = (xs.toList.map (·.1)).map bOf by rw [List.map_map]; rfl, bv_of]
    intro v hv
    obtain ⟨p, hp', rfl⟩ := List.mem_map.mp hv
    exact bv_mem (hmem p hp').2
  · have h1 := hl.map (fun p => bOf p.1)
    have e2 : ((bv l).zip (bv l)).map (fun p => bOf p.1) = l := by
      have : ((bv l).zip (bv l)).map (fun p => bOf p.1) = (((bv l).zip (bv l)).map Prod.fst).map bOf := by rw [List.map_map]; rfl
      rw [this, List.map_fst_zip (Nat.le_refl _), bv_back]
    rwa [e2] at h1
  · rw [List.pairwise_iff_getElem]
    intro i j hi hj hij
    have hi' : i < xs.size := by simpa using hi
    have hj' : j < xs.size := by simpa using hj
    have h1 := hs i j (Nat.le_of_lt hij) (by rw [← hp.size_eq]; exact hj')
    obtain ⟨x, t, ex⟩ := bv_mem (hmem xs[i] (by simp)).2
    obtain ⟨y, u, ey⟩ := bv_mem (hmem xs[j] (by simp)).2
    rw [KK_b hi' (b := x) (t := t) (q := xs[i].2) (Prod.ext ex rfl), KK_b hj' (b := y) (t := u) (q := xs[j].2) (Prod.ext ey rfl)] at h1
    change decide (bkey y < bkey x) = false at h1
    simp only [List.getElem_map, Array.getElem_toList]
    rw [ex, ey]
    exact of_decide_eq_false h1
section
variable {prog : Program} {w : World} {A : Around} {E : Value → Shared → Prop} {s : Shared}
theorem sorted_N_b {h₀ : Heap} {L : Addr} {m : Str → Option Value} {news : List (Addr × Obj)} {a : Addr} {l : List (Array UInt8 × Tok)} {Q : Value → Shared → Prop}
    (F : Fr h₀ L s.heap m) (N : News h₀ L s.heap news) (hl : s.heap.IsList a (bv l).toArray) (h64 : l.length < 64)
    (h : ∀ (D : Addr) (h' : Heap) (l' : List (Array UInt8 × Tok)) (e : Nat), Fr h₀ L h' m → News h₀ L h' ((D, seqObj "list" (bv l').toArray e) :: news) → (∀ q ∈ news, q.1 ≠ D) →
      l'.Perm l → l'.Pairwise (fun x y => ¬ bkey y.1 < bkey x.1) → Q (.ref D) { s with heap := h' }) :
    wpAny (model prog w) A (call (.builtin "sorted") [.ref a]) Q E s := by
  refine sortedK bKind_oneLt hl (fun p hp => ?_) (fun v₁ v₂ rest e => keyKind_b (l := l) e.symm) (by rw [bv_length]; exact h64) fun st' hp hs => ?_
  · rw [pairsOf_toList] at hp
    obtain ⟨b, t, e⟩ := bv_mem (mem_zip_self hp).2
    exact ⟨bkey b, by rw [e]⟩
  · obtain ⟨l', h1, h2, h3⟩ := sorted_out_b hp hs
    obtain ⟨e, he⟩ := sortedAll_at s.heap (bv l) ((arrOf st').map (·.2))
    have e2 : (arrOf st').map (·.2) = (bv l').toArray := by rw [← h1]
    rw [e2] at he ⊢
    exact h (s.heap.objs.size + 1) _ l' e (F.kept fun _ _ => sortedAll_old) (N.kept_cons F (fun _ _ => sortedAll_old) (Nat.le_succ _) he) (fun q hq => Nat.ne_of_lt (Nat.lt_succ_of_lt (Heap.lt_size (N q hq).1))) h2 h3
end
end Mine
end

/-! ## Med -/
section
open PySem PySem.W PyProof.Rows PySem.Calls PyProof.V PySem.Spec
set_option maxRecDepth 100000
set_option maxHeartbeats 8000000
namespace Mine
/-- l in order -/
def InOrder (l' l : List (Array UInt8 × Tok)) : Prop := l'.Perm l ∧ l'.Pairwise (fun x y => ¬ bkey y.1 < bkey x.1)
theorem item_b {prog : Program} {w : World} {A : Around} {E : Value → Shared → Prop} {s : Shared} {value slice : PySem.Expr} {a : Addr} {l : List (Array UInt8 × Tok)} {k : Int} {u : Tok} {b : Array UInt8} {t : Tok} {Q : Value → Shared → Prop}
    (hl : s.heap.IsList a (bv l).toArray) (h0 : 0 ≤ k) (hhi : k < 2 ^ 63) (hx : l[k.toNat]? = some (b, t)) (h : Q (.bytes b t) s)
    (hs : subscripted slice false (.ref a) (.int k u) = operate [.ref a, .int k u] (getItem (.ref a) (.int k u)) := by with_unfolding_all rfl) :
    wpAny (model prog w) A (subscriptTail value slice (.ref a) (.int k u)) Q E s :=
  tail_any hl.typeIs slot_list_getitem.lookup (wpAny_getItem_list hl h0 hhi (by simp [bv, hx]) h) hs
theorem medlow_call {w : World} {dp un : Nat} {gd : Option (List Code)} {cn : Str} {cs : Scope} {a : Addr} {ccd : Value} {cl : List (Str × Addr)} {outer : List Env} {A₀ : Around} {base h₀ : Heap} {L : Addr} {m : Str → Option Value} {news : List (Addr × Obj)} {s : Shared}
    {p : Program} {loose : List Str} {mean : ExcName → Option Value} {mg mb : Str → Option Value} {Q E : Value → Shared → Prop} {D : Addr} {l : List (Array UInt8 × Tok)} {e : Nat}
    (B : Below A₀ base outer h₀) (F : Fr h₀ L s.heap m) (X : (Mine.hd.heap_39 w.params).In h₀) (N : News h₀ L s.heap news) (T : Top p loose mean mg mb h₀) (hk : cs.kind = .function)
    (hd : dp + 1 < recursionLimit) (hu : un + 8 < cLine) (hm : (D, seqObj "list" (bv l).toArray e) ∈ news) (h1 : 1 ≤ l.length) (h64 : l.length < 64)
    (ret : ∀ l' b t h' tk', InOrder l' l → l'[(l.length - 1) / 2]? = some (b, t) → Fr h₀ L h' m → News h₀ L h' news → Q (.bytes b t) { s with heap := h', toks := tk' }) :
    wpAny (model PySem.Challenge.rw_nq0008_01.row.prog w) (ktrTop dp un gd cn cs L a ccd cl outer) (call (.ref 34) [.ref D]) Q E s := by
  revert X; k_fill; intro X
  refine wpAny_call ?_
  k_dflt ktr_enter
  k_steps
  (with_reducible rename News _ _ _ _ => N₁)
  refine sorted_N_b (l := l) (by assumption) N₁ ⟨_, (N₁ _ hm).1, rfl, e, rfl⟩ h64 ?_
  intro D₂ h₂ l₂ e₂ F₂ N₂ hne hp hs
  have hlen : l₂.length = l.length := hp.length_eq
  k_steps
  (with_reducible rename News _ _ _ _ => N₃)
  refine kst_len (us := bv l₂) (c := e₂) (k := l.length) N₃ (.head _) (by rw [bv_length]; exact hlen) (by omega) ?_
  obtain ⟨b, t, hx⟩ : ∃ b t, l₂[(l.length - 1) / 2]? = some (b, t) := ⟨_, _, List.getElem?_eq_getElem (by omega)⟩
  have ed : (l.length : Int).fdiv 2 = ((l.length / 2 : Nat) : Int) := by rw [Int.fdiv_eq_ediv_of_nonneg _ (by decide)]; omega
  have em : (l.length : Int).fmod 2 = ((l.length % 2 : Nat) : Int) := by rw [Int.fmod_eq_emod_of_nonneg _ (by decide)]; omega
  k_steps
  · exfalso; omega
  all_goals (
    (with_reducible rename News _ _ _ _ => N₄)
    refine item_b (l := l₂) (b := b) (t := t) ⟨_, (N₄ _ (.head _)).1, rfl, e₂, rfl⟩ (by omega) (by omega) ?_ ?_
    · rw [← hx]; congr 1; omega
    k_steps
    exact ret l₂ b t _ _ ⟨hp, hs⟩ hx (by assumption) (cb_drop (by assumption) (fun q hq => List.Mem.tail _ hq)))
theorem medhigh_call {w : World} {dp un : Nat} {gd : Option (List Code)} {cn : Str} {cs : Scope} {a : Addr} {ccd : Value} {cl : List (Str × Addr)} {outer : List Env} {A₀ : Around} {base h₀ : Heap} {L : Addr} {m : Str → Option Value} {news : List (Addr × Obj)} {s : Shared}
    {p : Program} {loose : List Str} {mean : ExcName → Option Value} {mg mb : Str → Option Value} {Q E : Value → Shared → Prop} {D : Addr} {l : List (Array UInt8 × Tok)} {e : Nat}
    (B : Below A₀ base outer h₀) (F : Fr h₀ L s.heap m) (X : (Mine.hd.heap_39 w.params).In h₀) (N : News h₀ L s.heap news) (T : Top p loose mean mg mb h₀) (hk : cs.kind = .function)
    (hd : dp + 1 < recursionLimit) (hu : un + 8 < cLine) (hm : (D, seqObj "list" (bv l).toArray e) ∈ news) (h1 : 1 ≤ l.length) (h64 : l.length < 64)
    (ret : ∀ l' b t h' tk', InOrder l' l → l'[l.length / 2]? = some (b, t) → Fr h₀ L h' m → News h₀ L h' news → Q (.bytes b t) { s with heap := h', toks := tk' }) :
    wpAny (model PySem.Challenge.rw_nq0008_01.row.prog w) (ktrTop dp un gd cn cs L a ccd cl outer) (call (.ref 41) [.ref D]) Q E s := by
  revert X; k_fill; intro X
  refine wpAny_call ?_
  k_dflt ktr_enter
  k_steps
  (with_reducible rename News _ _ _ _ => N₁)
  refine sorted_N_b (l := l) (by assumption) N₁ ⟨_, (N₁ _ hm).1, rfl, e, rfl⟩ h64 ?_
  intro D₂ h₂ l₂ e₂ F₂ N₂ hne hp hs
  have hlen : l₂.length = l.length := hp.length_eq
  k_steps
  (with_reducible rename News _ _ _ _ => N₃)
  refine kst_len (us := bv l₂) (c := e₂) (k := l.length) N₃ (.head _) (by rw [bv_length]; exact hlen) (by omega) ?_
  obtain ⟨b, t, hx⟩ : ∃ b t, l₂[l.length / 2]? = some (b, t) := ⟨_, _, List.getElem?_eq_getElem (by omega)⟩
  have ed : (l.length : Int).fdiv 2 = ((l.length / 2 : Nat) : Int) := by rw [Int.fdiv_eq_ediv_of_nonneg _ (by decide)]; omega
  have em : (l.length : Int).fmod 2 = ((l.length % 2 : Nat) : Int) := by rw [Int.fmod_eq_emod_of_nonneg _ (by decide)]; omega
  k_steps
  · exfalso; omega
  all_goals (
    (with_reducible rename News _ _ _ _ => N₄)
    refine item_b (l := l₂) (b := b) (t := t) ⟨_, (N₄ _ (.head _)).1, rfl, e₂, rfl⟩ (by omega) (by omega) ?_ ?_
    · rw [← hx]; congr 1; omega
    k_steps
    exact ret l₂ b t _ _ ⟨hp, hs⟩ hx (by assumption) (cb_drop (by assumption) (fun q hq => List.Mem.tail _ hq)))
end Mine
end

/-! ## EqL -/
section
open PySem PySem.W PyProof.Rows PySem.Calls PyProof.V PySem.Spec
set_option maxRecDepth 100000
set_option maxHeartbeats 8000000
namespace Mine
theorem bv_at {l : List (Array UInt8 × Tok)} {j : Nat} (h : j < (bv l).toArray.size) (h' : j < l.length) : (bv l).toArray[j] = .bytes l[j].1 l[j].2 := by simp [bv]
theorem ne_blists {prog : Program} {w : World} {A : Around} {E : Value → Shared → Prop} {s : Shared} {h₀ : Heap} {L : Addr} {news : List (Addr × Obj)} {a b : Addr} {l r : List (Array UInt8 × Tok)} {ea eb : Nat} {Q : Value → Shared → Prop}
    (N : News h₀ L s.heap news) (ma : (a, seqObj "list" (bv l).toArray ea) ∈ news) (mb : (b, seqObj "list" (bv r).toArray eb) ∈ news) (he : l.map (·.1) = r.map (·.1)) (hu : A.units < cLine)
    (h : Q (.bool false) s) : wpAny (model prog w) A (compareOp .NotEq (.ref a) (.ref b)) Q E s := by
  refine cmp_ofNotEq ?_
  have hlen : l.length = r.length := by have := congrArg List.length he; simpa using this
  have key : PySem.SeqAt.RcNeAt A s (.ref a) (.ref b) (!(List.range (bv l).toArray.size).all fun _ => true) := by
    refine PySem.SeqAt.RcNeAt.lists (items := (bv l).toArray) (items2 := (bv r).toArray) ⟨_, (N _ ma).1, rfl, ea, rfl⟩ ⟨_, (N _ mb).1, rfl, eb, rfl⟩ (by simp [bv, hlen]) hu ?_
    intro j h1 h2 prog w E Q hq
    have h3 : j < l.length := by simpa [bv] using h1
    have h4 : j < r.length := by simpa [bv] using h2
    have e3 : l[j].1 = r[j].1 := by
      have : (l.map (·.1))[j]? = (r.map (·.1))[j]? := by rw [he]
      simpa [h3, h4] using this
    rw [bv_at h1 h3, bv_at h2 h4, e3]
    exact eqBool_bytes (by simpa using hq)
  refine key prog w E Q ?_
  rw [show (!(List.range (bv l).toArray.size).all fun _ => true) = false by rw [List.all_eq_true.mpr (fun _ _ => rfl)]; rfl]
  exact h
theorem eq_tup2 {prog : Program} {w : World} {A : Around} {E : Value → Shared → Prop} {s : Shared} {h₀ : Heap} {L : Addr} {news : List (Addr × Obj)} {a b : Addr} {x y u v : Array UInt8} {t1 t2 t3 t4 : Tok} {ea eb : Nat} {Q : Value → Shared → Prop}
    (N : News h₀ L s.heap news) (ma : (a, seqObj "tuple" #[.bytes x t1, .bytes y t2] ea) ∈ news) (mb : (b, seqObj "tuple" #[.bytes u t3, .bytes v t4] eb) ∈ news) (hu : A.units < cLine)
    (h : Q (.bool (decide (x = u) && decide (y = v))) s) : wpAny (model prog w) A (compareOp .Eq (.ref a) (.ref b)) Q E s := by
  refine cmp_ofEq ?_
  have key := PySem.SeqAt.RcAt.tuples (A := A) (s := s) (l := a) (b := b) (items := #[.bytes x t1, .bytes y t2]) (items2 := #[.bytes u t3, .bytes v t4]) (e := fun j => if j = 0 then decide (x = u) else decide (y = v)) ⟨_, (N _ ma).1, rfl, ea, rfl⟩ ⟨_, (N _ mb).1, rfl, eb, rfl⟩ hu ?_
  · refine key prog w E Q ?_
    have e : ((List.range (min (#[Value.bytes x t1, Value.bytes y t2] : Array Value).size (#[Value.bytes u t3, Value.bytes v t4] : Array Value).size)).all fun j => if j = 0 then decide (x = u) else decide (y = v)) = (decide (x = u) && decide (y = v)) := by
      show ((List.range 2).all fun j => if j = 0 then decide (x = u) else decide (y = v)) = _
      simp [List.range_succ]
    rw [e]
    simpa using h
  · intro j h1 h2 prog w E Q hq
    have hj : j = 0 ∨ j = 1 := by
      have : j < 2 := h1
      omega
    rcases hj with rfl | rfl
    · refine eqBool_bytes ?_
      simpa [Array.toList_inj] using hq
    · refine eqBool_bytes ?_
      simpa [Array.toList_inj] using hq
end Mine
end

/-! ## Told -/
section
open PySem PySem.W PyProof.Rows PySem.Calls PyProof.V PySem.Spec
set_option maxRecDepth 100000
set_option maxHeartbeats 8000000
namespace Mine
theorem sorted_I {prog : Program} {w : World} {A : Around} {E : Value → Shared → Prop} {s : Shared} {h₀ : Heap} {L : Addr} {m : Str → Option Value} {news : List (Addr × Obj)} {l : Addr} {vs : List Value} {ns : List Int} {Q : Value → Shared → Prop}
    (F : Fr h₀ L s.heap m) (N : News h₀ L s.heap news) (hl : s.heap.IsList l vs.toArray) (hI : IntsAre vs ns) (h64 : vs.length < 64)
    (h : ∀ (D : Addr) (h' : Heap) (vs' : List Value) (ns' : List Int) (e : Nat), Fr h₀ L h' m → News h₀ L h' ((D, seqObj "list" vs'.toArray e) :: news) →
      IntsAre vs' ns' → ns'.Perm ns → ns'.Pairwise (· ≤ ·) → Q (.ref D) { s with heap := h' }) :
    wpAny (model prog w) A (call (.builtin "sorted") [.ref l]) Q E s := sorted_N F N hl hI h64 fun h' vs' ns' e F' N' a b c => h _ h' vs' ns' e F' N' a b c
theorem med_size {lo lg l : List (Array UInt8 × Tok)} {wd i : Nat} {b : Array UInt8} {t : Tok} (hO : InOrder lo lg) (hlg : lg.map (·.1) = l.map (·.1)) (hsz : ∀ x ∈ l, x.1.size = wd) (hx : lo[i]? = some (b, t)) : b.size = wd := by
  have h1 : (b, t) ∈ lg := hO.1.mem_iff.mp (List.mem_of_getElem? hx)
  have h2 : b ∈ lg.map (·.1) := List.mem_map.mpr ⟨_, h1, rfl⟩
  rw [hlg] at h2
  obtain ⟨y, hy, e⟩ := List.mem_map.mp h2
  rw [← e]
  exact hsz y hy
theorem turnB_size {d : Array UInt8} (h : 1 ≤ d.size) : (turnB d).size = d.size := by
  unfold turnB
  rw [Array.size_append, KBc.picked_eq]
  simp [clipAt]
  omega
local macro_rules | `(tactic| k_room) => `(tactic| ktr_room)
local macro_rules | `(tactic| k_units) => `(tactic| ktr_units)
local macro_rules | `(tactic| walk_at "call ref") => `(tactic| (k_here; (with_reducible show wpAny _ _ (call (Value.ref 34) [Value.ref _]) _ _ _); k_dflt (refine' medlow_call ?k1 ?k2 ?k3 ?k4 ?k5 ?kK ?kd ?ku ?hm ?h1 ?h6 ?_; (case k1 => k_asm); (case k2 => k_asm); (case k3 => k_asm); (case k4 => k_asm); (case k5 => k_asm); (case kK => exact rfl); (case hm => k_mem); (case kd => ktr_room); (case ku => ktr_units); (case h1 => omega); (case h6 => omega)); intro lo' b' t' h' tk' hO' hx' F' N'; (have hbz' := med_size hO' (by assumption) (by assumption) hx')))
local macro_rules | `(tactic| walk_at "call ref") => `(tactic| (k_here; (with_reducible show wpAny _ _ (call (Value.ref 41) [Value.ref _]) _ _ _); k_dflt (refine' medhigh_call ?k1 ?k2 ?k3 ?k4 ?k5 ?kK ?kd ?ku ?hm ?h1 ?h6 ?_; (case k1 => k_asm); (case k2 => k_asm); (case k3 => k_asm); (case k4 => k_asm); (case k5 => k_asm); (case kK => exact rfl); (case hm => k_mem); (case kd => ktr_room); (case ku => ktr_units); (case h1 => omega); (case h6 => omega)); intro lo' b' t' h' tk' hO' hx' F' N'; (have hbz' := med_size hO' (by assumption) (by assumption) hx')))
local macro_rules | `(tactic| walk_at "call ref") => `(tactic| (k_here; (with_reducible show wpAny _ _ (call (Value.ref 65) [Value.bytes _ _]) _ _ _); k_dflt (refine' turned_call ?k1 ?k2 ?k3 ?k4 ?k5 ?kK ?kd ?ku ?h1 ?h6 ?_; (case k1 => k_asm); (case k2 => k_asm); (case k3 => k_asm); (case k4 => k_asm); (case k5 => k_asm); (case kK => exact rfl); (case kd => ktr_room); (case ku => ktr_units); (case h1 => omega); (case h6 => omega)); intro t' h' tk' F' N'))
local macro_rules | `(tactic| walk_at "call type:type") => `(tactic| (k_here; (with_reducible show wpAny _ _ (call (Value.type "type") [Value.bytes _ _]) _ _ _); (refine call_type_of (typeIs_bytes _ _ _) (by decide) ?_)))
local macro_rules | `(tactic| walk_at "compareOp IsNot type:bytes type:bytes") => `(tactic| (k_here; (with_reducible show wpAny _ _ (compareOp CmpOp.IsNot (Value.type "bytes") (Value.type "bytes")) _ _ _); (refine isnot_type_same ?_)))
local macro_rules | `(tactic| walk_at "call ref") => `(tactic| (k_here; (with_reducible show wpAny _ _ (call (Value.ref 53) [Value.int _ _, Value.int _ _]) _ _ _); k_dflt (refine' octets_call ?k1 ?k2 ?k3 ?k4 ?k5 ?kK ?kd ?ku ?h1 ?h6 ?_; (case k1 => k_asm); (case k2 => k_asm); (case k3 => k_asm); (case k4 => k_asm); (case k5 => k_asm); (case kK => exact rfl); (case kd => ktr_room); (case ku => ktr_units); (case h1 => omega); (case h6 => omega)); intro t' h' tk' F' N'))
theorem told_call {w : World} {dp un : Nat} {gd : Option (List Code)} {cn : Str} {cs : Scope} {a : Addr} {ccd : Value} {cl : List (Str × Addr)} {outer : List Env} {A₀ : Around} {base h₀ : Heap} {L : Addr} {m : Str → Option Value} {news : List (Addr × Obj)} {s : Shared}
    {p : Program} {loose : List Str} {mean : ExcName → Option Value} {mg mb : Str → Option Value} {Q E : Value → Shared → Prop} {D S : Addr} {l : List (Array UInt8 × Tok)} {vs : List Value} {ns : List Int} {e e' : Nat} {wd : Nat} {tw : Tok}
    (B : Below A₀ base outer h₀) (F : Fr h₀ L s.heap m) (X : (Mine.hd.heap_39 w.params).In h₀) (N : News h₀ L s.heap news) (T : Top p loose mean mg mb h₀) (hk : cs.kind = .function)
    (hd : dp + 3 < recursionLimit) (hu : un + 40 < cLine) (hm : (D, seqObj "list" (bv l).toArray e) ∈ news) (hm' : (S, seqObj "list" vs.toArray e') ∈ news) (hI : IntsAre vs ns) (h1 : 1 ≤ l.length) (h64 : l.length < 64) (hln : ns.length = l.length)
    (hw1 : 1 ≤ wd) (hw3 : wd ≤ 3) (hsz : ∀ x ∈ l, x.1.size = wd)
    (ret : ∀ (lg lo hi : List (Array UInt8 × Tok)) (b c : Array UInt8) (tb tc : Tok) (ns' : List Int) (h' : Heap) (tk' : Nat), lg.map (·.1) = l.map (·.1) → InOrder lo lg → InOrder hi lg → lo[(lg.length - 1) / 2]? = some (b, tb) → hi[lg.length / 2]? = some (c, tc) → ns'.Perm ns → ns'.Pairwise (· ≤ ·) → Fr h₀ L h' m → News h₀ L h' news →
      Q (.bool (decide (swp (turnB b) wd = octs (ns'.getD (((ns'.length : Int) - 1).fdiv 2).toNat 0) (wd : Int)) && decide (swp (turnB c) wd = octs (ns'.getD ((ns'.length : Int).fdiv 2).toNat 0) (wd : Int)))) { s with heap := h', toks := tk' }) :
    wpG (model PySem.Challenge.rw_nq0008_01.row.prog w) (ktrTop dp un gd cn cs L a ccd cl outer) (call (.ref 70) [.ref D, .ref S, .int (wd : Int) tw]) Q E s := by
  revert X; k_fill; intro X
  refine wpG_call ?_
  k_dflt (refine' codeG_def (binds := [(Str.ofString "words", .ref D), (Str.ofString "samples", .ref S), (Str.ofString "width", .int (wd : Int) tw)]) ?k1 ?k2 ?k3 ?k4 ?k5 ?kA ?kF ?kK ?k6 ?k7 ?k8 ?k9 ?kB ?_ ?c2 ?c3 ?c4 ?c5; (case kA => exact rfl); (case kF => exact rfl); (case kK => assumption); (case k1 => k_asm); (case k2 => k_asm); (case k3 => k_asm); (case k4 => k_asm); (case k5 => k_asm); (case k6 => k_is); (case k7 => k_is); (case k8 => ktr_room); (case k9 => exact BindsTo.of_eq rfl); (case c5 => decide); (case kB => exact locs rfl); (case c2 => exact rfl); (case c3 => exact rfl); (case c4 => exact rfl); k_whole; intro g L' h₁ FG' F₁ N₁ B' X' T'; (try dsimp only))
  rw [lk3] at F₁
  refine wpG_execs_any ?_
  k_steps
  refine sorted_I (by assumption) N₁ ⟨_, (N₁ _ hm').1, rfl, e', rfl⟩ hI (by rw [hI.length]; omega) ?_
  intro D₂ h₂ vs₂ ns₂ e₂ F₂ N₂ hI₂ hp₂ hs₂
  k_steps
  refine wpG_execs_any ?_
  refine LCg.Assign_ListComp_U (by assumption) rfl rfl rfl (by decide) rfl (by decide) rfl rfl rfl ?_
  k_steps
  refine LCg.CompSrc.ledger (its := (bv l).toArray) (k := e) rfl (by assumption) (by assumption) (.tail _ hm) (by rw [sizeLine_eq, List.size_toArray, bv_length]; omega) fun g₂ => ?_
  have hsl : (bv l).toArray.size = l.length := by rw [List.size_toArray, bv_length]
  refine compRest_inv (n := (bv l).toArray.size) (fun i ys news₁ => news₁ = _ ∧ ∃ lg, ys = bv lg ∧ lg.map (·.1) = (l.map (·.1)).take i) ?_ ?_ _ 0 [] _ rfl ⟨rfl, [], rfl, rfl⟩
  · rintro i ys news₁ hi ⟨rfl, lg, rfl, hlg⟩ v I oI C oC Dg m₂ h₃ tk₃ E' hv hC hx F₃ N₃ off ne
    obtain ⟨b, t, hlx, rfl⟩ := bv_get (l := l) (i := i) (by simpa using hv)
    k_steps
    refine LCg.CompEnd.intro (by assumption) (by assumption) _ (fun q hq => hq) off (.inr ⟨_, .tail _ hm, rfl, e, rfl⟩) ⟨rfl, lg ++ [(b, t)], by rw [bv_append]; rfl, ?_⟩
    rw [List.map_append, hlg, List.take_add_one, List.getElem?_map, hlx]
    rfl
  · rintro ys news₁ ⟨rfl, lg, rfl, hlg⟩
    intro Dg h₄ tk₄ F₄ N₄ off₄
    have hlg' : lg.map (·.1) = l.map (·.1) := by rw [hlg, hsl, List.take_of_length_le (by simp)]
    have hgl : lg.length = l.length := by have := congrArg List.length hlg'; simpa using this
    change Fr g L' h₄ _ at F₄
    change News g L' h₄ _ at N₄
    refine wpG_execs_cons (wpG_Assign_Name (wpG_Call_Name ?_))
    k_steps
    refine callWithG_K X' (by k_is) ?_
    k_steps
    k_dflt (refine' byteswap_call (c := 1) ?k1 ?k2 ?k3 ?k4 ?k5 ?kK ?kd ?ku ?w1 ?hc ?hz ?wz ?_; (case k1 => k_asm); (case k2 => k_asm); (case k3 => k_asm); (case k4 => k_asm); (case k5 => k_asm); (case kK => exact rfl); (case kd => ktr_room); (case ku => ktr_units); (case w1 => exact hw1); (case hc => rw [turnB_size (by omega)]; omega); (case hz => rw [turnB_size (by omega)]; omega); (case wz => omega))
    intro t₅ h₅ tk₅ F₅ N₅
    refine wpG.any ?_
    k_steps
    refine wpG_execs_cons (wpG_Assign_Name (wpG_Call_Name ?_))
    k_steps
    refine callWithG_K X' (by k_is) ?_
    k_steps
    k_dflt (refine' byteswap_call (c := 1) ?k1 ?k2 ?k3 ?k4 ?k5 ?kK ?kd ?ku ?w1 ?hc ?hz ?wz ?_; (case k1 => k_asm); (case k2 => k_asm); (case k3 => k_asm); (case k4 => k_asm); (case k5 => k_asm); (case kK => exact rfl); (case kd => ktr_room); (case ku => ktr_units); (case w1 => exact hw1); (case hc => rw [turnB_size (by omega)]; omega); (case hz => rw [turnB_size (by omega)]; omega); (case wz => omega))
    intro t₆ h₆ tk₆ F₆ N₆
    refine wpG.any ?_
    k_steps
    refine wpG_execs_any ?_
    refine wpAny_If ?_
    iterate 4 (first | walk1 | (dsimp only; walk1))
    refine ne_blists (by assumption) (.head _) (.tail _ (.tail _ hm)) hlg' (by show un + 3 < cLine; omega) ?_
    k_steps
    have hn₂ : ns₂.length = l.length := by rw [hp₂.length_eq, hln]
    have hv₂ : vs₂.length = l.length := by rw [hI₂.length, hn₂]
    refine wpG.any ?_
    iterate 62 (first | walk1 | (dsimp only; walk1))
    refine eq_tup2 (by assumption) (.tail _ (.head _)) (.head _) (by show un + 3 < cLine; omega) ?_
    k_steps
    refine' ret lg _ _ _ _ _ _ ns₂ _ _ hlg' ?ra ?rb ?rc ?rd hp₂ hs₂ ?re ?rf
    case rc => assumption
    case rd => assumption
    case ra => assumption
    case rb => assumption
    case re => assumption
    case rf => exact cb_drop (by assumption) (fun q hq => by repeat (first | exact hq | refine List.Mem.tail _ ?_))
end Mine
end

/-! ## Plain -/
section
open PySem PySem.W PyProof.Rows PySem.Calls PyProof.V PySem.Spec
set_option maxRecDepth 100000
set_option maxHeartbeats 8000000
namespace Mine
theorem swp_size (d : Array UInt8) (wd : Nat) : (swp d wd).size = d.size := by simp [swp]
theorem swp_get {d : Array UInt8} {wd k : Nat} (hk : k < d.size) : (swp d wd)[k]? = some (d.getD (mir wd k) 0) := by
  rw [Array.getElem?_eq_getElem (by rw [swp_size]; exact hk)]
  simp [swp]
theorem place {wd c k n : Nat} (h1 : 1 ≤ wd) (hc : n = c * wd) (hk : k < n) : ∃ q x, k = q * wd + x ∧ x < wd ∧ q < c := by
  refine ⟨k / wd, k % wd, ?_, Nat.mod_lt _ h1, ?_⟩
  · rw [Nat.mul_comm]; exact (Nat.div_add_mod k wd).symm
  · rw [Nat.div_lt_iff_lt_mul h1]; omega
theorem swp_swp {d : Array UInt8} {wd c : Nat} (h1 : 1 ≤ wd) (hc : d.size = c * wd) : swp (swp d wd) wd = d := by
  refine Array.ext_getElem? fun k => ?_
  by_cases hk : k < d.size
  · rw [swp_get (by rw [swp_size]; exact hk)]
    obtain ⟨q, x, rfl, hx, hq⟩ := place h1 hc hk
    have hb : q * wd + (wd - 1 - x) < d.size := by
      have : (q + 1) * wd ≤ c * wd := Nat.mul_le_mul_right _ hq
      rw [Nat.succ_mul] at this
      omega
    rw [mir_in hx, Array.getD_eq_getD_getElem?, swp_get hb, mir_in (by omega), Option.getD_some, Array.getD_eq_getD_getElem?]
    rw [show wd - 1 - (wd - 1 - x) = x by omega, Array.getElem?_eq_getElem hk]
    rfl
  · rw [Array.getElem?_eq_none (by rw [swp_size, swp_size]; omega), Array.getElem?_eq_none (by omega)]
theorem swp_whole (d : Array UInt8) : swp d d.size = d.reverse := by
  refine Array.ext_getElem? fun k => ?_
  by_cases hk : k < d.size
  · rw [swp_get hk, Array.getElem?_eq_getElem (by rw [Array.size_reverse]; exact hk), Array.getElem_reverse]
    have := mir_in (wd := d.size) (q := 0) hk
    rw [Nat.zero_mul, Nat.zero_add, Nat.zero_add] at this
    rw [this, Array.getD_eq_getD_getElem?, Array.getElem?_eq_getElem (by omega)]
    rfl
  · rw [Array.getElem?_eq_none (by rw [swp_size]; omega), Array.getElem?_eq_none (by rw [Array.size_reverse]; omega)]
/-- a turned octet -/
def tb (b : UInt8) : UInt8 := (Builtin.bitXor (b.toNat : Int) 128).toNat.toUInt8
theorem tb_nat (b : UInt8) : (tb b).toNat = (b.toNat + 128) % 256 := by
  have h : ∀ k : Fin 256, ((Builtin.bitXor (k.val : Int) 128).toNat.toUInt8).toNat = (k.val + 128) % 256 := by decide +kernel
  exact h ⟨b.toNat, b.toNat_lt⟩
theorem tb_tb (b : UInt8) : tb (tb b) = b := by
  refine UInt8.toNat_inj.mp ?_
  rw [tb_nat, tb_nat]
  have := b.toNat_lt
  omega
theorem turnB_cons (b : UInt8) (r : List UInt8) : turnB (b :: r).toArray = (tb b :: r).toArray := by
  unfold turnB
  rw [KBc.picked_eq]
  have h1 : (KBw.bInts (b :: r).toArray).getD (Int.toNat 0) 0 = (b.toNat : Int) := rfl
  rw [h1]
  have h2 : clipAt (b :: r).toArray.size 1 = 1 := by
    rw [show (1 : Int) = ((1 : Nat) : Int) from rfl, clipAt_nat]
    simp
  simp only [Option.elim_some, Option.elim_none]
  rw [h2]
  simp [tb]
theorem cons_of_size {d : Array UInt8} (h : 1 ≤ d.size) : ∃ b r, d = (b :: r).toArray := by
  obtain ⟨l⟩ := d
  cases l with
  | nil => simp at h
  | cons b r => exact ⟨b, r, rfl⟩
theorem turnB_turnB {d : Array UInt8} (h : 1 ≤ d.size) : turnB (turnB d) = d := by
  obtain ⟨b, r, rfl⟩ := cons_of_size h
  rw [turnB_cons, turnB_cons, tb_tb]
theorem turnB_size' {d : Array UInt8} (h : 1 ≤ d.size) : (turnB d).size = d.size := by
  obtain ⟨b, r, rfl⟩ := cons_of_size h
  rw [turnB_cons]
  simp
theorem octs_eq (x : Int) (wd : Nat) : octs x (wd : Int) = ((List.range wd).map fun k => ((x % (256 ^ wd : Int)) / (256 ^ k : Int) % 256).toNat.toUInt8).toArray := by
  unfold octs byteArr rangeKs
  rw [show (((wd : Int) - 0).toNat) = wd by omega, List.map_map, List.map_map]
  refine congrArg List.toArray (List.map_congr_left fun k _ => ?_)
  have h1 : (0 : Int) ≤ 256 ^ wd := Int.pow_nonneg (by decide)
  have h2 : (0 : Int) ≤ 256 ^ k := Int.pow_nonneg (by decide)
  simp only [Function.comp]
  rw [show ((0 : Int) + (k : Int)).toNat = k by omega, show ((wd : Int)).toNat = wd by omega, Int.fmod_eq_emod_of_nonneg _ h1, Int.fdiv_eq_ediv_of_nonneg _ h2, Int.fmod_eq_emod_of_nonneg _ (by decide)]
theorem octs_size (x : Int) (wd : Nat) : (octs x (wd : Int)).size = wd := by
  rw [octs_eq]; simp
/-- the word of a sample -/
def enc (wd : Nat) (x : Int) : Array UInt8 := turnB (swp (octs x (wd : Int)) wd)
theorem enc_rev (wd : Nat) (x : Int) : enc wd x = turnB ((octs x (wd : Int)).reverse) := by
  unfold enc
  have := swp_whole (octs x (wd : Int))
  rw [octs_size] at this
  rw [this]
theorem enc_size {wd : Nat} (h1 : 1 ≤ wd) (x : Int) : (enc wd x).size = wd := by
  unfold enc
  rw [turnB_size' (by rw [swp_size, octs_size]; exact h1), swp_size, octs_size]
theorem enc_back {wd : Nat} (h1 : 1 ≤ wd) (x : Int) : swp (turnB (enc wd x)) wd = octs x (wd : Int) := by
  unfold enc
  rw [turnB_turnB (by rw [swp_size, octs_size]; exact h1), swp_swp (c := 1) h1 (by rw [octs_size]; omega)]
theorem u8_nat {v : Int} (h0 : 0 ≤ v) (h1 : v < 256) : ((v.toNat.toUInt8).toNat : Int) = v := byte_back h0 h1
theorem key_lt {wd : Nat} (h1 : 1 ≤ wd) (h3 : wd ≤ 3) {x y : Int} (hx0 : -(256 ^ wd / 2) ≤ x) (hx1 : x < 256 ^ wd / 2) (hy0 : -(256 ^ wd / 2) ≤ y) (hy1 : y < 256 ^ wd / 2) : bkey (enc wd x) < bkey (enc wd y) ↔ x < y := by
  have hw : wd = 1 ∨ wd = 2 ∨ wd = 3 := by omega
  rw [enc_rev, enc_rev, octs_eq, octs_eq]
  rcases hw with rfl | rfl | rfl
  · simp only [List.range_succ, List.range_zero, List.nil_append, List.map_cons, List.map_nil, List.reverse_toArray, List.reverse_cons, List.reverse_nil, turnB_cons, bkey, tb_nat, List.cons_lt_cons_iff] at *
    have e1 := u8_nat (v := x % 256 ^ 1 / 256 ^ 0 % 256) (by omega) (by omega)
    have e2 := u8_nat (v := y % 256 ^ 1 / 256 ^ 0 % 256) (by omega) (by omega)
    have : ¬ (([] : List Nat) < []) := by decide
    simp only [this, and_false, or_false]
    omega
  · simp only [List.range_succ, List.range_zero, List.nil_append, List.map_cons, List.map_nil, List.map_append, List.cons_append, List.reverse_toArray, List.reverse_cons, List.reverse_nil, turnB_cons, bkey, tb_nat, List.cons_lt_cons_iff] at *
    have e1 := u8_nat (v := x % 256 ^ 2 / 256 ^ 0 % 256) (by omega) (by omega)
    have e2 := u8_nat (v := y % 256 ^ 2 / 256 ^ 0 % 256) (by omega) (by omega)
    have e3 := u8_nat (v := x % 256 ^ 2 / 256 ^ 1 % 256) (by omega) (by omega)
    have e4 := u8_nat (v := y % 256 ^ 2 / 256 ^ 1 % 256) (by omega) (by omega)
    have : ¬ (([] : List Nat) < []) := by decide
    simp only [this, and_false, or_false]
    omega
  · simp only [List.range_succ, List.range_zero, List.nil_append, List.map_cons, List.map_nil, List.map_append, List.cons_append, List.reverse_toArray, List.reverse_cons, List.reverse_nil, turnB_cons, bkey, tb_nat, List.cons_lt_cons_iff] at *
    have e1 := u8_nat (v := x % 256 ^ 3 / 256 ^ 0 % 256) (by omega) (by omega)
    have e2 := u8_nat (v := y % 256 ^ 3 / 256 ^ 0 % 256) (by omega) (by omega)
    have e3 := u8_nat (v := x % 256 ^ 3 / 256 ^ 1 % 256) (by omega) (by omega)
    have e4 := u8_nat (v := y % 256 ^ 3 / 256 ^ 1 % 256) (by omega) (by omega)
    have e5 := u8_nat (v := x % 256 ^ 3 / 256 ^ 2 % 256) (by omega) (by omega)
    have e6 := u8_nat (v := y % 256 ^ 3 / 256 ^ 2 % 256) (by omega) (by omega)
    have : ¬ (([] : List Nat) < []) := by decide
    simp only [this, and_false, or_false]
    omega
end Mine
end

/-! ## JoinB -/
section
open PySem PySem.W PyProof.Rows PySem.Calls PyProof.V PySem.Spec
set_option maxRecDepth 100000
set_option maxHeartbeats 8000000
namespace Mine
namespace FB
theorem b_slot_join : Slot "bytes" "join" "bytes.join" :=
  .of (owner := "bytes") (n := "join") (by rw [typeLookup_type, builtinLookup_eq_fast]; kernel_rfl) (by decide +kernel) (by decide +kernel) (by decide +kernel)
    (by first | exact .inl (by decide +kernel) | exact .inr (by decide +kernel)) (by rw [isSubtype_type]; kernel_rfl)
theorem b_type_join : typeOf (.builtin "bytes.join") = pure (.type "method_descriptor") := by show builtinType _ = _; rw [builtinType_eq_fast]; kernel_rfl
theorem b_entry_join : entryFor table "bytes.join" = some Builtin.«bytes.join» := by first | exact entryFor_of_fast (by kernel_rfl) | exact entryFor_of_tree (by kernel_rfl)
theorem b_args_join (a b : Value) : argsOk "bytes.join" ⟨[a, b], []⟩ := by unfold argsOk; kernel_rfl
end FB
theorem m1o {its : Array Value} {f : (x : Value) → Sem PySem.Fin} {g : (x : Array Value) → Sem PySem.Fin} (h : its.size ≠ 1) : Builtin.Bytes.joinM.match_1 (fun _ => Sem PySem.Fin) its f g = g its := by
  unfold Builtin.Bytes.joinM.match_1
  rw [dif_neg h]
theorem foldl_sizes : ∀ (l : List (Array UInt8)) (n : Nat), l.foldl (fun x1 x2 => x1 + x2.size) n = n + (l.map (·.size)).sum
  | [], n => by simp
  | x :: l, n => by rw [List.foldl_cons, foldl_sizes l, List.map_cons, List.sum_cons]; omega
/-- laid end to end -/
def flat (l : List (Array UInt8)) : Array UInt8 := (l.map (·.toList)).flatten.toArray
theorem flat_size (l : List (Array UInt8)) : (flat l).size = (l.map (·.size)).sum := by
  unfold flat
  rw [List.size_toArray, List.length_flatten, List.map_map]
  rfl
theorem joined_from (sep : Array UInt8) (hs : sep = #[]) : ∀ (l : List (Array UInt8)) (n : Nat) (out : Array UInt8), (l.zipIdx n).foldl (fun out (x : Array UInt8 × Nat) => (if x.2 > 0 then out ++ sep else out) ++ x.1) out = out ++ flat l
  | [], n, out => by simp [flat]
  | x :: l, n, out => by
    rw [List.zipIdx_cons, List.foldl_cons, joined_from sep hs l]
    subst hs
    simp only [Array.append_empty, ite_self]
    obtain ⟨x⟩ := x
    simp [flat, Array.append_assoc]
theorem joined_nil (l : List (Array UInt8)) : Builtin.Bytes.joined #[] l = flat l := by
  unfold Builtin.Bytes.joined
  have := joined_from #[] rfl l 0 #[]
  rw [Array.empty_append] at this
  exact this
theorem wpAny_joinLetGo {M : Model} {A : Around} {E : Value → Shared → Prop} {s : Shared} {keep : List Value} {Q : Unit → Shared → Prop} : ∀ (l : List (Array UInt8 × Tok)) (_ : Q () s), wpAny M A (Builtin.Bytes.joinLetGo (l.map fun x => (Value.bytes x.1 x.2, none)) keep) Q E s
  | [], h => wpAny_pure h
  | x :: l, h => by
    rw [List.map_cons, Builtin.Bytes.joinLetGo]
    · exact wpAny_bind (wpAny_letGo (wpAny_joinLetGo l h))
    · intro _ e; cases e
section
variable {prog : Program} {w : World} {A : Around} {E : Value → Shared → Prop} {s : Shared}
theorem join_method {M : Model} {b : Array UInt8} {t : Tok} {pl : Sem Bool} {Q : Value × List Value → Shared → Prop} (h : Q (.builtin "bytes.join", [.bytes b t]) s) : wpAny M A (getMethod (.bytes b t) (Str.ofString "join") pl) Q E s := by
  with_reducible exact KBd.method_of (.bytes b t) (typeIs_bytes _ _ _) FB.b_slot_join FB.b_type_join KBd.noRef h
theorem take_eq {id : String} {b : Array UInt8} {t : Tok} : Builtin.Bytes.takeBuffer? id (.bytes b t) 0 = pure (some (b, none)) := by
  unfold Builtin.Bytes.takeBuffer?
  have hf : ((0 : Int) == Builtin.Bytes.fullReadOnly) = false := by decide +kernel
  rw [KBy.special_eq KBy.look_buffer, KBy.own_buffer, hf, KBy.buffer_eq]
  kernel_rfl
theorem takeQuiet_eq {id : String} {b : Array UInt8} {t : Tok} : Builtin.Bytes.takeBufferQuiet? id (.bytes b t) 0 = pure (some (b, none)) := by
  unfold Builtin.Bytes.takeBufferQuiet?
  rw [take_eq]
  rfl
theorem wpAny_forRange {M : Model} {β : Type} {b : Nat} {f : Nat → β → Sem (ForInStep β)} (I : Nat → β → Shared → Prop) {Q : β → Shared → Prop}
    (hstep : ∀ i c st, i < b → I i c st → wpAny M A (f i c) (fun r st' => match r with | .done c' => Q c' st' | .yield c' => I (i + 1) c' st') E st)
    (hend : ∀ c st, I b c st → Q c st) {c : β} (h : I 0 c s) : wpAny M A (forIn [0:b] c f) Q E s := by
  rw [Std.Legacy.Range.forIn_eq_forIn_range']
  have hsz : ([0:b] : Std.Legacy.Range).size = b := by simp [Std.Legacy.Range.size]
  show wpAny M A (forIn (List.range' 0 ([0:b] : Std.Legacy.Range).size 1) c f) Q E s
  rw [hsz]
  refine wpAny_forIn_list f (fun l c st => ∃ i, i ≤ b ∧ l = List.range' i (b - i) 1 ∧ I i c st) Q ?_ ?_ _ c ⟨0, Nat.zero_le _, rfl, h⟩
  · rintro x rest c st ⟨i, hib, hl, hI⟩
    have hlt : i < b := by
      rcases Nat.lt_or_ge i b with h' | h'
      · exact h'
      · rw [show b - i = 0 by omega] at hl; cases hl
    obtain ⟨n, hn⟩ : ∃ n, b - i = n + 1 := ⟨b - i - 1, by omega⟩
    rw [hn, List.range'_succ] at hl
    obtain ⟨rfl, rfl⟩ := List.cons.inj hl
    refine wpAny_mono (hstep x c st hlt hI) (fun r st' h' => ?_) fun _ _ e => e
    cases r with
    | done c' => exact h'
    | yield c' => exact ⟨x + 1, by omega, by congr 1; omega, h'⟩
  · rintro c st ⟨i, hib, hl, hI⟩
    have e : i = b := by
      rcases Nat.lt_or_ge i b with h' | h'
      · obtain ⟨n, hn⟩ : ∃ n, b - i = n + 1 := ⟨b - i - 1, by omega⟩
        rw [hn, List.range'_succ] at hl; cases hl
      · omega
    subst e
    exact hend _ _ hI
theorem seqItems_at {M : Model} {a : Addr} {xs : Array Value} {e : Nat} {Q : Option (Array Value) → Shared → Prop} (ho : s.heap.get? a = some (seqObj "list" xs e)) (h : Q (some xs) s) : wpAny M A (seqItems? (.ref a)) Q E s := by
  unfold seqItems?
  exact wpAny_bind (wpAny_load ho (wpAny_pure h))
theorem call_join {D : Addr} {l : List (Array UInt8 × Tok)} {e : Nat} {t : Tok} {Q : Value → Shared → Prop} (ho : s.heap.get? D = some (seqObj "list" (bv l).toArray e)) (h2 : 2 ≤ l.length) (hz : (l.map (·.1.size)).sum ≤ 16777216)
    (h : ∀ t' k, Q (.bytes (flat (l.map (·.1))) t') { s with toks := k }) :
    wpAny (model prog w) A (call (.builtin "bytes.join") [.bytes #[] t, .ref D]) Q E s := by
  refine wpAny_call_entry FB.b_slot_join (typeIs_bytes s #[] t) FB.b_entry_join ?_ (FB.b_args_join _ _)
  unfold Builtin.«bytes.join» Builtin.Bytes.joinM
  dsimp only
  refine wpAny_bind (wpAny_of_eq (a := (Value.bytes #[] t, Value.ref D)) rfl ?_)
  have hT : s.TypeIs (.ref D) "list" := ⟨_, ho, rfl⟩
  refine bm_if_true (by decide) ?_
  dsimp only
  refine wpAny_bind ?_
  unfold Builtin.Bytes.joinItems
  refine wpAny_bind (wpAny_typeOf hT ?_)
  refine bm_if_true (by decide) ?_
  refine wpAny_pure ?_
  refine wpAny_bind (seqItems_at ho ?_)
  dsimp only
  refine bm_if_true (by decide) ?_
  have hsz : (bv l).toArray.size = l.length := by rw [List.size_toArray, bv_length]
  obtain ⟨its, hits⟩ : ∃ its, its = (bv l).toArray := ⟨_, rfl⟩
  rw [← hits] at hsz ⊢
  rw [m1o (its := its) (by omega)]
  subst hits
  refine wpAny_bind ?_
  refine wpAny_forRange (fun i c st => st = s ∧ c = (((l.map (·.1)).take i).toArray, (l.take i).map fun x => (Value.bytes x.1 x.2, none))) ?_ ?_ ⟨rfl, rfl⟩
  · rintro i c st hi ⟨rfl, rfl⟩
    rw [hsz] at hi
    refine wpAny_bind (seqItems_at ho ?_)
    dsimp only
    refine bm_if_false ?_ ?_
    · rw [Bool.or_eq_false_iff]
      refine ⟨by decide, ?_⟩
      rw [List.any_eq_false]
      intro y hy
      obtain ⟨z, _, rfl⟩ := List.mem_map.mp hy
      simp [Value.onHeap]
    have hg : (bv l).toArray.getD i Value.none = .bytes l[i].1 l[i].2 := by
      simp [bv, hi]
    rw [hg]
    refine wpAny_bind (wpAny_holding (wpAny_of_eq takeQuiet_eq ?_))
    dsimp only
    refine wpAny_bind (seqItems_at ho ?_)
    dsimp only
    refine bm_if_false (by simp) ?_
    refine wpAny_pure ⟨rfl, ?_⟩
    have h4 : (l.map (·.1)).take (i + 1) = (l.map (·.1)).take i ++ [l[i].1] := by rw [List.take_add_one, List.getElem?_map, List.getElem?_eq_getElem hi]; rfl
    have h5 : l.take (i + 1) = l.take i ++ [l[i]] := by rw [List.take_add_one, List.getElem?_eq_getElem hi]; rfl
    rw [h4, h5, List.map_append]
    simp
  · rintro c st ⟨rfl, rfl⟩
    have e1 : (l.map (·.1)).take (bv l).toArray.size = l.map (·.1) := by rw [hsz, List.take_of_length_le (by simp)]
    have e2 : l.take (bv l).toArray.size = l := by rw [hsz, List.take_of_length_le (by simp)]
    rw [e1, e2]
    dsimp only
    refine wpAny_bind (wpAny_of_eq (a := #[]) rfl ?_)
    have e3 : (l.map (·.1)).toArray.foldl (fun x1 x2 => x1 + x2.size) ((#[] : Array UInt8).size * ((l.map (·.1)).toArray.size - 1)) = (l.map (·.1.size)).sum := by
      rw [show ((#[] : Array UInt8).size * ((l.map (·.1)).toArray.size - 1)) = 0 by simp, List.foldl_toArray']
      · rw [foldl_sizes, Nat.zero_add, List.map_map]; rfl
      · rfl
    rw [e3]
    have hz' : (l.map (·.1.size)).sum ≤ sizeLine := by rw [sizeLine_eq]; exact hz
    refine bm_if_false (by unfold Builtin.Bytes.tooLong; simpa using hz') ?_
    refine wpAny_bind (m := mkBytes _) (wpAny_mkBytes ?_ (by rw [joined_nil, flat_size, List.map_map]; exact hz'))
    refine wpAny_bind (wpAny_holding (wpAny_point ?_))
    refine wpAny_bind (wpAny_joinLetGo l ?_)
    refine wpAny_pure ⟨_, rfl, ?_⟩
    rw [joined_nil]
    exact h _ _
end
end Mine
end

/-! ## ToldT -/
section
open PySem PySem.W PyProof.Rows PySem.Calls PyProof.V PySem.Spec
set_option maxRecDepth 100000
set_option maxHeartbeats 8000000
namespace Mine
theorem sorted_one {α : Type} {r : α → α → Prop} : ∀ {l₁ l₂ : List α}, l₁.Perm l₂ → l₁.Pairwise r → l₂.Pairwise r → (∀ a ∈ l₁, ∀ b ∈ l₁, r a b → r b a → a = b) → l₁ = l₂
  | [], l₂, hp, _, _, _ => (List.nil_perm.mp hp).symm
  | a :: l₁, [], hp, _, _, _ => absurd hp.length_eq (by simp)
  | a :: l₁, b :: l₂, hp, h1, h2, ha => by
    have hm : ∀ x, x ∈ b :: l₂ → x ∈ a :: l₁ := fun x hx => hp.mem_iff.mpr hx
    have e : a = b := by
      have hb : b ∈ a :: l₁ := hm b List.mem_cons_self
      have ha' : a ∈ b :: l₂ := hp.mem_iff.mp List.mem_cons_self
      rcases List.mem_cons.mp hb with e | hb'
      · exact e.symm
      · rcases List.mem_cons.mp ha' with e | ha''
        · exact e
        · exact ha a List.mem_cons_self b hb ((List.pairwise_cons.mp h1).1 b hb') ((List.pairwise_cons.mp h2).1 a ha'')
    subst e
    rw [sorted_one (List.Perm.cons_inv hp) (List.pairwise_cons.mp h1).2 (List.pairwise_cons.mp h2).2 fun x hx y hy => ha x (List.mem_cons_of_mem _ hx) y (List.mem_cons_of_mem _ hy)]
/-- the samples of a track of this width -/
def InW (wd : Nat) (ns : List Int) : Prop := ∀ d ∈ ns, -((256 : Int) ^ wd / 2) ≤ d ∧ d < (256 : Int) ^ wd / 2
theorem order_eq {wd : Nat} (h1 : 1 ≤ wd) (h3 : wd ≤ 3) {ns ns' : List Int} {lo lg : List (Array UInt8 × Tok)} (hW : InW wd ns) (hlg : lg.map (·.1) = ns.map (enc wd)) (hO : InOrder lo lg) (hp : ns'.Perm ns) (hs : ns'.Pairwise (· ≤ ·)) :
    lo.map (·.1) = ns'.map (enc wd) := by
  have hW' : InW wd ns' := fun d hd => hW d (hp.mem_iff.mp hd)
  have p1 : (lo.map (·.1)).Perm (ns'.map (enc wd)) := by
    refine (hO.1.map (·.1)).trans ?_
    rw [hlg]
    exact (hp.map (enc wd)).symm
  refine sorted_one (r := fun x y => ¬ bkey y < bkey x) p1 (List.pairwise_map.mpr hO.2) ?_ ?_
  · refine List.pairwise_map.mpr (hs.imp_of_mem fun {a b} ha hb hab h => ?_)
    have := (key_lt h1 h3 (hW' b hb).1 (hW' b hb).2 (hW' a ha).1 (hW' a ha).2).mp h
    omega
  · intro a ha b hb h4 h5
    obtain ⟨x, hx, rfl⟩ := List.mem_map.mp (p1.mem_iff.mp ha)
    obtain ⟨y, hy, rfl⟩ := List.mem_map.mp (p1.mem_iff.mp hb)
    have hxy : ¬ y < x := fun h => h4 ((key_lt h1 h3 (hW' y hy).1 (hW' y hy).2 (hW' x hx).1 (hW' x hx).2).mpr h)
    have hyx : ¬ x < y := fun h => h5 ((key_lt h1 h3 (hW' x hx).1 (hW' x hx).2 (hW' y hy).1 (hW' y hy).2).mpr h)
    rw [show x = y by omega]
theorem at_eq {wd : Nat} (h1 : 1 ≤ wd) {ns' : List Int} {lo : List (Array UInt8 × Tok)} {i : Nat} {b : Array UInt8} {t : Tok} (he : lo.map (·.1) = ns'.map (enc wd)) (hb : lo[i]? = some (b, t)) : swp (turnB b) wd = octs (ns'.getD i 0) (wd : Int) := by
  have h2 : (lo.map (·.1))[i]? = some b := by rw [List.getElem?_map, hb]; rfl
  rw [he, List.getElem?_map] at h2
  obtain ⟨x, hx, rfl⟩ := Option.map_eq_some_iff.mp h2
  rw [List.getD_eq_getElem?_getD, hx]
  exact enc_back h1 x
theorem told_true {w : World} {dp un : Nat} {gd : Option (List Code)} {cn : Str} {cs : Scope} {a : Addr} {ccd : Value} {cl : List (Str × Addr)} {outer : List Env} {A₀ : Around} {base h₀ : Heap} {L : Addr} {m : Str → Option Value} {news : List (Addr × Obj)} {s : Shared}
    {p : Program} {loose : List Str} {mean : ExcName → Option Value} {mg mb : Str → Option Value} {Q E : Value → Shared → Prop} {D S : Addr} {l : List (Array UInt8 × Tok)} {vs : List Value} {ns : List Int} {e e' : Nat} {wd : Nat} {tw : Tok}
    (B : Below A₀ base outer h₀) (F : Fr h₀ L s.heap m) (X : (Mine.hd.heap_39 w.params).In h₀) (N : News h₀ L s.heap news) (T : Top p loose mean mg mb h₀) (hk : cs.kind = .function)
    (hd : dp + 3 < recursionLimit) (hu : un + 40 < cLine) (hm : (D, seqObj "list" (bv l).toArray e) ∈ news) (hm' : (S, seqObj "list" vs.toArray e') ∈ news) (hI : IntsAre vs ns) (h1 : 1 ≤ ns.length) (h64 : ns.length < 64)
    (hw1 : 1 ≤ wd) (hw3 : wd ≤ 3) (henc : l.map (·.1) = ns.map (enc wd)) (hW : InW wd ns)
    (ret : ∀ (h' : Heap) (tk' : Nat), Fr h₀ L h' m → News h₀ L h' news → Q (.bool true) { s with heap := h', toks := tk' }) :
    wpG (model PySem.Challenge.rw_nq0008_01.row.prog w) (ktrTop dp un gd cn cs L a ccd cl outer) (call (.ref 70) [.ref D, .ref S, .int (wd : Int) tw]) Q E s := by
  have hln : l.length = ns.length := by have := congrArg List.length henc; simpa using this
  refine told_call B F X N T hk hd hu hm hm' hI (by omega) (by omega) hln.symm hw1 hw3 ?_ ?_
  · intro x hx
    have : x.1 ∈ l.map (·.1) := List.mem_map_of_mem hx
    rw [henc] at this
    obtain ⟨y, _, e⟩ := List.mem_map.mp this
    rw [← e]
    exact enc_size hw1 y
  · intro lg lo hi b c tb tc ns' h' tk' hlg hlo hhi hb hc hp hs F' N'
    have e1 := order_eq hw1 hw3 hW (hlg.trans henc) hlo hp hs
    have e2 := order_eq hw1 hw3 hW (hlg.trans henc) hhi hp hs
    have hgl : lg.length = ns'.length := by have := congrArg List.length (hlg.trans henc); rw [hp.length_eq]; simpa using this
    have hpl := hp.length_eq
    have i1 : (((ns'.length : Int) - 1).fdiv 2).toNat = (lg.length - 1) / 2 := by rw [Int.fdiv_eq_ediv_of_nonneg _ (by decide)]; omega
    have i2 : ((ns'.length : Int).fdiv 2).toNat = lg.length / 2 := by rw [Int.fdiv_eq_ediv_of_nonneg _ (by decide)]; omega
    have z := ret h' tk' F' N'
    rw [i1, i2, at_eq hw1 e1 hb, at_eq hw1 e2 hc]
    simpa using z
end Mine
end

/-! ## Track -/
section
open PySem PySem.W PyProof.Rows PySem.Calls PyProof.V PySem.Spec
set_option maxRecDepth 100000
set_option maxHeartbeats 8000000
namespace Mine
theorem flat_cons (x : Array UInt8) (l : List (Array UInt8)) : flat (x :: l) = x ++ flat l := by
  obtain ⟨x⟩ := x
  simp [flat]
theorem flat_get {wd : Nat} : ∀ {l : List (Array UInt8)} {i x : Nat}, (∀ d ∈ l, d.size = wd) → x < wd → (flat l)[i * wd + x]? = (l[i]?).bind (fun d => d[x]?)
  | [], i, x, _, _ => by simp [flat]
  | d :: l, 0, x, h, hx => by
    have hd := h d List.mem_cons_self
    rw [flat_cons, Nat.zero_mul, Nat.zero_add, Array.getElem?_append_left (by omega)]
    rfl
  | d :: l, i + 1, x, h, hx => by
    have hd := h d List.mem_cons_self
    rw [flat_cons, Array.getElem?_append_right (by rw [Nat.succ_mul]; omega), hd, show (i + 1) * wd + x - wd = i * wd + x by rw [Nat.succ_mul]; omega]
    rw [flat_get (fun e he => h e (List.mem_cons_of_mem _ he)) hx]
    rfl
theorem sum_const {α : Type} {wd : Nat} {f : α → Nat} : ∀ {l : List α}, (∀ d ∈ l, f d = wd) → (l.map f).sum = l.length * wd
  | [], _ => by simp
  | d :: l, h => by
    rw [List.map_cons, List.sum_cons, h d List.mem_cons_self, sum_const fun e he => h e (List.mem_cons_of_mem _ he), List.length_cons, Nat.succ_mul]
    omega
theorem flat_len {wd : Nat} {l : List (Array UInt8)} (h : ∀ d ∈ l, d.size = wd) : (flat l).size = l.length * wd := by
  rw [flat_size]
  exact sum_const h
theorem wordAt_eq {d : Array UInt8} {wd i : Nat} (h : i * wd + wd ≤ d.size) : wordAt d wd i = ((d.toList.drop (i * wd)).take wd).toArray := by
  unfold wordAt
  rw [KBc.picked_eq]
  have h1 : clipAt d.size ((i * wd : Nat) : Int) = i * wd := by rw [clipAt_nat]; omega
  have h2 : clipAt d.size (((i * wd : Nat) : Int) + (wd : Int)) = i * wd + wd := by
    rw [show ((i * wd : Nat) : Int) + (wd : Int) = ((i * wd + wd : Nat) : Int) by push_cast; rfl, clipAt_nat]; omega
  simp only [Option.elim_some]
  rw [h1, h2, show i * wd + wd - i * wd = wd by omega]
theorem wordAt_get {d : Array UInt8} {wd i x : Nat} (h : i * wd + wd ≤ d.size) (hx : x < wd) : (wordAt d wd i)[x]? = d[i * wd + x]? := by
  rw [wordAt_eq h, List.getElem?_toArray, List.getElem?_take, if_pos hx, List.getElem?_drop, Array.getElem?_toList]
theorem wordAt_size {d : Array UInt8} {wd i : Nat} (h : i * wd + wd ≤ d.size) : (wordAt d wd i).size = wd := by
  rw [wordAt_eq h, List.size_toArray, List.length_take, List.length_drop, Array.length_toList]
  omega
/-- the words of the swapped track are the swapped words -/
theorem word_swp {wd i : Nat} {l : List (Array UInt8)} {d : Array UInt8} (h1 : 1 ≤ wd) (h : ∀ d ∈ l, d.size = wd) (hd : l[i]? = some d) : wordAt (swp (flat l) wd) wd i = swp d wd := by
  have hi : i < l.length := by
    rcases Nat.lt_or_ge i l.length with h' | h'
    · exact h'
    · rw [List.getElem?_eq_none h'] at hd; cases hd
  have hds : d.size = wd := h d (List.mem_of_getElem? hd)
  have hb : i * wd + wd ≤ (swp (flat l) wd).size := by
    rw [swp_size, flat_len h]
    have : (i + 1) * wd ≤ l.length * wd := Nat.mul_le_mul_right _ hi
    rw [Nat.succ_mul] at this
    exact this
  have hb' : i * wd + wd ≤ (flat l).size := by rw [swp_size] at hb; exact hb
  refine Array.ext_getElem? fun x => ?_
  by_cases hx : x < wd
  · have m0 := mir_in (wd := wd) (q := 0) hx
    rw [Nat.zero_mul, Nat.zero_add, Nat.zero_add] at m0
    rw [wordAt_get hb hx, swp_get (by omega), swp_get (by omega), mir_in hx, m0, Array.getD_eq_getD_getElem?, Array.getD_eq_getD_getElem?, flat_get h (by omega), hd]
    rfl
  · rw [Array.getElem?_eq_none (by rw [wordAt_size hb]; omega), Array.getElem?_eq_none (by rw [swp_size]; omega)]
theorem track_word {wd i : Nat} {ds : List Int} (h1 : 1 ≤ wd) (hi : i < ds.length) : turnB (wordAt (swp (flat (ds.map fun x => octs x (wd : Int))) wd) wd i) = enc wd (ds.getD i 0) := by
  have hd : (ds.map fun x => octs x (wd : Int))[i]? = some (octs (ds.getD i 0) (wd : Int)) := by
    rw [List.getElem?_map, List.getElem?_eq_getElem hi, List.getD_eq_getElem?_getD, List.getElem?_eq_getElem hi]
    rfl
  rw [word_swp h1 (fun d hd => by obtain ⟨y, _, rfl⟩ := List.mem_map.mp hd; exact octs_size _ _) hd]
  rfl
theorem track_size {wd : Nat} {ds : List Int} : (flat (ds.map fun x => octs x (wd : Int))).size = ds.length * wd := by
  rw [flat_len (wd := wd) (fun d hd => by obtain ⟨y, _, rfl⟩ := List.mem_map.mp hd; exact octs_size _ _), List.length_map]
theorem track_words {wd : Nat} {ds : List Int} (h1 : 1 ≤ wd) {l l' : List (Array UInt8 × Tok)} (hl : l.map (·.1) = (List.range ds.length).map (wordAt (swp (flat (ds.map fun x => octs x (wd : Int))) wd) wd)) (hl' : l'.map (·.1) = l.map fun x => turnB x.1) : l'.map (·.1) = ds.map (enc wd) := by
  rw [hl', show (l.map fun x => turnB x.1) = (l.map (·.1)).map turnB by rw [List.map_map]; rfl, hl, List.map_map]
  refine List.ext_getElem (by simp) fun i h2 h3 => ?_
  have hi : i < ds.length := by simpa using h3
  simp only [List.getElem_map, List.getElem_range, Function.comp]
  rw [track_word h1 hi, List.getD_eq_getElem?_getD, List.getElem?_eq_getElem hi]
  rfl
end Mine
end

/-! ## Law0 -/
section
open PySem PySem.W PyProof.Rows PySem.Calls PyProof.V PySem.Spec
set_option maxRecDepth 100000
set_option maxHeartbeats 8000000
namespace Mine
theorem callG_cellsN {prog : Program} {w : World} {A : Around} {R : Result → Shared → Prop} {s : Shared} {name : Str} {params : Arguments} {body : List Stmt} {scope : Scope}
    {pm cd doc : Value} {a : Addr} {o : Obj} {args : List Value} {binds : List (Str × Value)}
    (hroom : A.depth < recursionLimit) (ho : s.heap.get? a = some o) (hdata : o.data = .func (Calls.docDef name params body scope pm cd doc)) (hlim : s.heap.NoLimit) (hcd : s.heap.CodeRec cd name)
    (hbind : bindArgs (Calls.docDef name params body scope pm cd doc) ⟨args, []⟩ = pure binds)
    (hkind : ∀ x ∈ binds, scope.names.lookup x.1 = some .local ∨ (scope.names.lookup x.1 = some .cell ∧ ((cellsFrom (s.heap.objs.size + 1) scope.names []).lookup x.1).isSome = true))
    (hnd : ((cellsFrom 0 scope.names []).map (·.1)).Nodup)
    (h : ∀ h₁ tk cells, Fr s.heap s.heap.objs.size h₁ (bindL (envOfC name scope s.heap.objs.size a cd).kindOf binds fun _ => none) → News s.heap s.heap.objs.size h₁ cells →
      CellsAre (bindC (envOfC name scope s.heap.objs.size a cd).kindOf binds fun _ => none) (cellsFrom (s.heap.objs.size + 1) scope.names []) cells →
      wpG (model prog w) (A.deeper (envOfC name scope s.heap.objs.size a cd)) (execs body (envOfC name scope s.heap.objs.size a cd))
        (fun f s' => R (.ok (.ret (match f with | .ret v => v | _ => .none))) s') (fun _ _ => False)
        { s with heap := h₁, toks := tk })
    (hco : scope.isCoroutine = false := by rfl) (hgen : scope.isGenerator = false := by rfl) (hk : scope.kind = .function := by rfl) :
    codeG (model prog w) A (.call (.ref a) ⟨args, []⟩) R s := by
  refine codeG_call_function hroom ho hdata hco hgen rfl hcd ?_
  rw [hbind]
  refine wpAny_pure (wpAny_newFunctionEnv_cells hk hkind fun env' he s' x => ?_)
  subst he
  refine ⟨hlim.keeps x.toInCall.keep, codeG_func ?_⟩
  obtain ⟨h₁, tk, rfl, _⟩ := x.done
  obtain ⟨cells, NC, Y⟩ := Cl.news (h₀ := s.heap) (Nat.le_refl _) fun n c hm => ⟨x.cell n c (lookup_of_mem_nodup (cellsFrom_names scope.names 0 (s.heap.objs.size + 1) [] [] rfl ▸ hnd) hm), x.above n c hm⟩
  exact wpG_mono (h h₁ tk cells ⟨x.toInCall.ns, fun b o e => x.toInCall.keep b o e, Nat.le_refl _⟩ NC Y) (fun _ _ z => z) fun _ _ y => y.elim
theorem enterG_call {M : Model} {A : Around} {s : Shared} {f : Value} {pos : List Value} {kw : List (Str × Value)} {c : ClaimW} {cl : Str → Option Addr} {mean : ExcName → Option Value} {args : List WData} {s₁ : Shared}
    (h : codeG M A (.call f ⟨pos, kw⟩) (GoodWG c cl mean args s₁) s) : wpG M A (PySem.call f pos kw) (fun v s' => GoodWG c cl mean args s₁ (.ok (.ret v)) s') (fun e s' => GoodWG c cl mean args s₁ (.error e) s') s :=
  wpG_call (codeG_mono h fun res s' g => by rcases g.1 with ⟨v, _, _, rfl, _⟩ | ⟨e, _, _, rfl, _⟩ <;> exact g)
end Mine
end

/-! ## LawD -/
section
open PySem PySem.W PyProof.Rows PySem.Calls PyProof.V PySem.Spec
set_option maxRecDepth 100000
set_option maxHeartbeats 8000000
namespace Mine
/-- the law's own statements and scope, out of the given program -/
def lawStmts : List Stmt := match PySem.Challenge.pw_nq0008_01.main.body.getLast? with
  | some (.FunctionDef _ _ body _ _ _ _ _ _ _) => body
  | _ => []
def lawScope : Scope := match PySem.Challenge.pw_nq0008_01.main.body.getLast? with
  | some (.FunctionDef _ _ _ _ _ _ sc _ _ _) => sc
  | _ => { kind := .module, names := [], isGenerator := false, isCoroutine := false }
end Mine
end

/-! ## S4 -/
section
open PySem PySem.W PyProof.Rows PySem.Calls PyProof.V PySem.Spec
set_option maxRecDepth 100000
set_option maxHeartbeats 8000000
namespace Mine
local macro_rules | `(tactic| k_room) => `(tactic| ktr_room)
local macro_rules | `(tactic| k_units) => `(tactic| ktr_units)
local macro_rules | `(tactic| walk_at "call ref") => `(tactic| (k_here; (with_reducible show wpAny _ _ (call (Value.ref 65) [Value.bytes _ _]) _ _ _); k_dflt (refine' turned_call ?k1 ?k2 ?k3 ?k4 ?k5 ?kK ?kd ?ku ?h1 ?h6 ?_; (case k1 => k_asm); (case k2 => k_asm); (case k3 => k_asm); (case k4 => k_asm); (case k5 => k_asm); (case kK => exact rfl); (case kd => ktr_room); (case ku => ktr_units); (case h1 => omega); (case h6 => omega)); intro t' h' tk' F' N'))
theorem halves {wd : Nat} (h1 : 1 ≤ wd) (h3 : wd ≤ 3) {hf : Int} (h : hf = (256 : Int) ^ wd / 2) : 0 < hf ∧ hf ≤ 8388608 := by
  have hw : wd = 1 ∨ wd = 2 ∨ wd = 3 := by omega
  rcases hw with rfl | rfl | rfl <;> (simp at h; omega)
theorem drawn_in {wd : Nat} (h1 : 1 ≤ wd) (h3 : wd ≤ 3) {hf : Int} (h : hf = (256 : Int) ^ wd / 2) (ts : List Int) : InW wd (ts.map fun k => (k + hf).fmod (2 * hf) - hf) := by
  have hb := halves h1 h3 h
  intro d hd
  obtain ⟨k, _, rfl⟩ := List.mem_map.mp hd
  rw [← h, Int.fmod_eq_emod_of_nonneg _ (by omega)]
  have z1 := Int.emod_nonneg (k + hf) (show 2 * hf ≠ 0 by omega)
  have z2 := Int.emod_lt_of_pos (k + hf) (show 0 < 2 * hf by omega)
  omega
theorem st4 {w : World} {h₀ : Heap} {L fa : Addr} {cd : Value} {m : Str → Option Value} {s : Shared} {p : Program} {loose : List Str} {mean : ExcName → Option Value} {mg mb : Str → Option Value} {Q : Flow → Shared → Prop}
    {Dk : Addr} {ws : List Value} {ts : List Int} {o1 o2 o3 o4 : Obj} {wd : Nat} {hf : Int} {tw th : Tok}
    (B : Below callerA h₀ [] h₀) (F : Fr h₀ L s.heap (fun y => if y = Str.ofString "taken" then some (.ref Dk) else m y)) (X : (Mine.hd.heap_39 w.params).In h₀) (T : Top p loose mean mg mb h₀)
    (N : News h₀ L s.heap [(Dk, W.listOf ws.toArray 0), (L + 1, o1), (L + 1 + 1, o2), (L + 1 + 1 + 1, o3), (L + 1 + 1 + 1 + 1, o4)])
    (d1 : o1.data = .cell (some (.int (wd : Int) tw))) (d2 : o2.data = .cell (some (.int hf th))) (d3 : o3.data = .cell none) (hI : IntsAre ws ts) (hw1 : 1 ≤ wd) (hw3 : wd ≤ 3) (hhf : hf = (256 : Int) ^ wd / 2) (hl1 : 4 ≤ ts.length) (hl2 : ts.length ≤ 8)
    (l1 : L + 1 < Dk ∧ L + 1 + 1 < Dk ∧ L + 1 + 1 + 1 < Dk ∧ L + 1 + 1 + 1 + 1 < Dk)
    (k : ∀ Dd ys ds o3' h' tk', Fr h₀ L h' (fun y => if y = Str.ofString "taken" then some (.ref Dk) else m y) → News h₀ L h' [(Dd, LCg.lst ys), (L + 1, o1), (L + 1 + 1, o2), (L + 1 + 1 + 1, o3'), (L + 1 + 1 + 1 + 1, o4)] → o3'.data = .cell (some (.ref Dd)) → IntsAre ys ds → InW wd ds → 4 ≤ ds.length → ds.length ≤ 8 → (@Ne Nat (L + 1 + 1 + 1 + 1) Dd) →
      wpG (model PySem.Challenge.rw_nq0008_01.row.prog w) (callerA.deeper (envOfC (Str.ofString "law") lawScope L fa cd)) (execs (lawStmts.drop 4) (envOfC (Str.ofString "law") lawScope L fa cd)) Q (fun _ _ => False) { s with heap := h', toks := tk' }) :
    wpG (model PySem.Challenge.rw_nq0008_01.row.prog w) (callerA.deeper (envOfC (Str.ofString "law") lawScope L fa cd)) (execs (lawStmts.drop 3) (envOfC (Str.ofString "law") lawScope L fa cd)) Q (fun _ _ => False) s := by
  revert X; k_fill; intro X
  generalize hsc : lawScope = sc at *
  conv at hsc => lhs; whnf
  subst hsc
  conv in List.drop 3 lawStmts => whnf
  conv at k in List.drop 4 lawStmts => whnf
  have hb := halves hw1 hw3 hhf
  have hne : 2 * hf ≠ 0 := by omega
  refine wpG_execs_any ?_
  k_steps
  rename_i hkl g₂ hI₈ hL₈ D₃ h₃ tk₃ F₃ N₃ o₃
  refine storeX_C F₃ N₃ rfl (.tail (Ne.symm o₃.2.2.2.1) (.tail (Nat.ne_of_gt l1.2.2.1) (.tail (Nat.ne_of_lt (by omega)) (.tail (Nat.ne_of_lt (by omega)) (.head (fun q hq => by rw [List.mem_singleton.mp hq]; exact Nat.ne_of_gt (by omega))))))) d3 ?_
  intro h₅ o₅ F₅ N₅ d₅
  exact k D₃ ys _ o₅ h₅ _ F₅ (cb_drop N₅ fun q hq => by
    rcases List.mem_cons.mp hq with rfl | hq
    · exact .head _
    · exact .tail _ (.tail _ hq)) d₅ hI₈ (drawn_in hw1 hw3 hhf ts) (by rw [List.length_map]; exact hl1) (by rw [List.length_map]; exact hl2) o₃.2.2.2.2
end Mine
end

/-! ## S5 -/
section
open PySem PySem.W PyProof.Rows PySem.Calls PyProof.V PySem.Spec
set_option maxRecDepth 100000
set_option maxHeartbeats 8000000
namespace Mine
local macro_rules | `(tactic| k_room) => `(tactic| ktr_room)
local macro_rules | `(tactic| k_units) => `(tactic| ktr_units)
local macro_rules | `(tactic| walk_at "call ref") => `(tactic| (k_here; (with_reducible show wpAny _ _ (call (Value.ref 53) [Value.int _ _, Value.int _ _]) _ _ _); k_dflt (refine' octets_call ?k1 ?k2 ?k3 ?k4 ?k5 ?kK ?kd ?ku ?h1 ?h6 ?_; (case k1 => k_asm); (case k2 => k_asm); (case k3 => k_asm); (case k4 => k_asm); (case k5 => k_asm); (case kK => exact rfl); (case kd => ktr_room); (case ku => ktr_units); (case h1 => omega); (case h6 => omega)); intro t' h' tk' F' N'))
theorem st5 {w : World} {h₀ : Heap} {L fa : Addr} {cd : Value} {m : Str → Option Value} {s : Shared} {p : Program} {loose : List Str} {mean : ExcName → Option Value} {mg mb : Str → Option Value} {Q : Flow → Shared → Prop}
    {Dd : Addr} {ys : List Value} {ds : List Int} {o1 o2 o3 o4 : Obj} {wd : Nat} {tw : Tok}
    (B : Below callerA h₀ [] h₀) (F : Fr h₀ L s.heap m) (X : (Mine.hd.heap_39 w.params).In h₀) (T : Top p loose mean mg mb h₀)
    (N : News h₀ L s.heap [(Dd, LCg.lst ys), (L + 1, o1), (L + 1 + 1, o2), (L + 1 + 1 + 1, o3), (L + 1 + 1 + 1 + 1, o4)])
    (d1 : o1.data = .cell (some (.int (wd : Int) tw))) (d3 : o3.data = .cell (some (.ref Dd))) (hI : IntsAre ys ds) (hw1 : 1 ≤ wd) (hw3 : wd ≤ 3) (hl1 : 4 ≤ ds.length) (hl2 : ds.length ≤ 8)
    (k : ∀ t h' tk', Fr h₀ L h' (fun y => if y = Str.ofString "low" then some (.bytes (flat (ds.map fun x => octs x (wd : Int))) t) else m y) → News h₀ L h' [(Dd, LCg.lst ys), (L + 1, o1), (L + 1 + 1, o2), (L + 1 + 1 + 1, o3), (L + 1 + 1 + 1 + 1, o4)] →
      wpG (model PySem.Challenge.rw_nq0008_01.row.prog w) (callerA.deeper (envOfC (Str.ofString "law") lawScope L fa cd)) (execs (lawStmts.drop 5) (envOfC (Str.ofString "law") lawScope L fa cd)) Q (fun _ _ => False) { s with heap := h', toks := tk' }) :
    wpG (model PySem.Challenge.rw_nq0008_01.row.prog w) (callerA.deeper (envOfC (Str.ofString "law") lawScope L fa cd)) (execs (lawStmts.drop 4) (envOfC (Str.ofString "law") lawScope L fa cd)) Q (fun _ _ => False) s := by
  revert X; k_fill; intro X
  generalize hsc : lawScope = sc at *
  conv at hsc => lhs; whnf
  subst hsc
  conv in List.drop 4 lawStmts => whnf
  conv at k in List.drop 5 lawStmts => whnf
  refine wpG_execs_any ?_
  k_steps
  refine join_method ?_
  iterate 2 (first | walk1 | (dsimp only; walk1))
  refine LCg.ListComp_U (by assumption) rfl (by decide) rfl (by decide) rfl ?_
  iterate 1 (first | walk1 | (dsimp only; walk1))
  have hyl : ys.toArray.size = ds.length := by rw [List.size_toArray, hI.length]
  refine LCg.CompSrc.ledger (its := ys.toArray) (k := ys.length) rfl (by assumption) (by assumption) (.head _) (by rw [sizeLine_eq, hyl]; omega) fun g₂ => ?_
  refine compRest_inv (n := ys.toArray.size) (fun i zs news₁ => news₁ = _ ∧ ∃ l, zs = bv l ∧ l.map (·.1) = (ds.map fun x => octs x (wd : Int)).take i) ?_ ?_ _ 0 [] _ rfl ⟨rfl, [], rfl, rfl⟩
  · rintro i zs news₁ hi ⟨rfl, l, rfl, hl⟩ v I oI C oC D m₂ h₃ tk₃ E' hv hC hx F₃ N₃ off ne
    obtain ⟨d, t, rfl, hd⟩ := IntsAre.at hI i v (by simpa using hv)
    k_steps
    refine LCg.CompEnd.intro (by assumption) (by assumption) _ (fun q hq => hq) off (.inr ⟨_, .head _, rfl, _, rfl⟩) ⟨rfl, l ++ [(octs d (wd : Int), _)], by rw [bv_append]; rfl, ?_⟩
    rw [List.map_append, hl, List.take_add_one, List.getElem?_map, hd]
    rfl
  · rintro zs news₁ ⟨rfl, l, rfl, hl⟩
    intro D h₄ tk₄ F₄ N₄ off₄
    have hl' : l.map (·.1) = ds.map fun x => octs x (wd : Int) := by rw [hl, hyl, List.take_of_length_le (by simp)]
    have hll : l.length = ds.length := by have := congrArg List.length hl'; simpa using this
    k_steps
    refine call_join (l := l) (e := (bv l).length) (by show h₄.get? D = _; exact (N₄ _ (.head _)).1) (by omega) ?_ ?_
    · rw [sum_const (wd := wd) (f := fun x : Array UInt8 × Tok => x.1.size)]
      · rw [hll]; calc ds.length * wd ≤ 8 * 3 := Nat.mul_le_mul hl2 hw3
          _ ≤ _ := by decide
      · intro x hx
        have : x.1 ∈ l.map (·.1) := List.mem_map_of_mem hx
        rw [hl'] at this
        obtain ⟨y, _, e⟩ := List.mem_map.mp this
        rw [← e]
        exact octs_size _ _
    intro t₅ k₅
    rw [hl']
    k_steps
    refine k _ _ _ (by assumption) (cb_drop (by assumption) (fun q hq => List.Mem.tail _ hq))
end Mine
end

/-! ## S6 -/
section
open PySem PySem.W PyProof.Rows PySem.Calls PyProof.V PySem.Spec
set_option maxRecDepth 100000
set_option maxHeartbeats 8000000
namespace Mine
local macro_rules | `(tactic| k_room) => `(tactic| ktr_room)
local macro_rules | `(tactic| k_units) => `(tactic| ktr_units)
theorem st6 {w : World} {h₀ : Heap} {L fa : Addr} {cd : Value} {m : Str → Option Value} {s : Shared} {p : Program} {loose : List Str} {mean : ExcName → Option Value} {mg mb : Str → Option Value} {Q : Flow → Shared → Prop}
    {Dd : Addr} {ys : List Value} {ds : List Int} {o1 o2 o3 o4 : Obj} {wd : Nat} {tw : Tok} {tl : Tok}
    (B : Below callerA h₀ [] h₀) (F : Fr h₀ L s.heap (fun y => if y = Str.ofString "low" then some (.bytes (flat (ds.map fun x => octs x (wd : Int))) tl) else m y)) (X : (Mine.hd.heap_39 w.params).In h₀) (T : Top p loose mean mg mb h₀)
    (N : News h₀ L s.heap [(Dd, LCg.lst ys), (L + 1, o1), (L + 1 + 1, o2), (L + 1 + 1 + 1, o3), (L + 1 + 1 + 1 + 1, o4)])
    (d1 : o1.data = .cell (some (.int (wd : Int) tw))) (d3 : o3.data = .cell (some (.ref Dd))) (hI : IntsAre ys ds) (hw1 : 1 ≤ wd) (hw3 : wd ≤ 3) (hl1 : 4 ≤ ds.length) (hl2 : ds.length ≤ 8)
    (k : ∀ t h' tk', Fr h₀ L h' (fun y => if y = Str.ofString "high" then some (.bytes (swp (flat (ds.map fun x => octs x (wd : Int))) wd) t) else if y = Str.ofString "low" then some (.bytes (flat (ds.map fun x => octs x (wd : Int))) tl) else m y) → News h₀ L h' [(Dd, LCg.lst ys), (L + 1, o1), (L + 1 + 1, o2), (L + 1 + 1 + 1, o3), (L + 1 + 1 + 1 + 1, o4)] →
      wpG (model PySem.Challenge.rw_nq0008_01.row.prog w) (callerA.deeper (envOfC (Str.ofString "law") lawScope L fa cd)) (execs (lawStmts.drop 6) (envOfC (Str.ofString "law") lawScope L fa cd)) Q (fun _ _ => False) { s with heap := h', toks := tk' }) :
    wpG (model PySem.Challenge.rw_nq0008_01.row.prog w) (callerA.deeper (envOfC (Str.ofString "law") lawScope L fa cd)) (execs (lawStmts.drop 5) (envOfC (Str.ofString "law") lawScope L fa cd)) Q (fun _ _ => False) s := by
  revert X; k_fill; intro X
  generalize hsc : lawScope = sc at *
  conv at hsc => lhs; whnf
  subst hsc
  conv in List.drop 5 lawStmts => whnf
  conv at k in List.drop 6 lawStmts => whnf
  have hsz : (flat (ds.map fun x => octs x (wd : Int))).size = ds.length * wd := track_size
  have hb : ds.length * wd ≤ 24 := Nat.mul_le_mul hl2 hw3
  refine wpG_execs_cons (wpG_Assign_Name (wpG_Call_Name ?_))
  k_steps
  refine callWithG_K X (by k_is) ?_
  k_steps
  k_dflt (refine' byteswap_call (c := ds.length) ?k1 ?k2 ?k3 ?k4 ?k5 ?kK ?kd ?ku ?w1 ?hc ?hz ?wz ?_; (case k1 => k_asm); (case k2 => k_asm); (case k3 => k_asm); (case k4 => k_asm); (case k5 => k_asm); (case kK => exact rfl); (case kd => ktr_room); (case ku => ktr_units); (case w1 => exact hw1); (case hc => exact hsz); (case hz => omega); (case wz => omega))
  intro t₅ h₅ tk₅ F₅ N₅
  refine wpG.any ?_
  k_steps
  exact k _ _ _ (by assumption) (by assumption)
end Mine
end

/-! ## S7 -/
section
open PySem PySem.W PyProof.Rows PySem.Calls PyProof.V PySem.Spec
set_option maxRecDepth 100000
set_option maxHeartbeats 8000000
namespace Mine
local macro_rules | `(tactic| k_room) => `(tactic| ktr_room)
local macro_rules | `(tactic| k_units) => `(tactic| ktr_units)
local macro_rules | `(tactic| walk_at "call type:type") => `(tactic| (k_here; (with_reducible show wpAny _ _ (call (Value.type "type") [Value.bytes _ _]) _ _ _); (refine call_type_of (typeIs_bytes _ _ _) (by decide) ?_)))
local macro_rules | `(tactic| walk_at "compareOp IsNot type:bytes type:bytes") => `(tactic| (k_here; (with_reducible show wpAny _ _ (compareOp CmpOp.IsNot (Value.type "bytes") (Value.type "bytes")) _ _ _); (refine isnot_type_same ?_)))
theorem st7 {w : World} {h₀ : Heap} {L fa : Addr} {cd : Value} {m : Str → Option Value} {s : Shared} {p : Program} {loose : List Str} {mean : ExcName → Option Value} {mg mb : Str → Option Value} {Q : Flow → Shared → Prop}
    {Dd : Addr} {ys : List Value} {ds : List Int} {o1 o2 o3 o4 : Obj} {wd : Nat} {tw : Tok} {tl th : Tok} {lo : Array UInt8}
    (B : Below callerA h₀ [] h₀) (F : Fr h₀ L s.heap (fun y => if y = Str.ofString "high" then some (.bytes (swp lo wd) th) else if y = Str.ofString "low" then some (.bytes lo tl) else m y)) (X : (Mine.hd.heap_39 w.params).In h₀) (T : Top p loose mean mg mb h₀)
    (N : News h₀ L s.heap [(Dd, LCg.lst ys), (L + 1, o1), (L + 1 + 1, o2), (L + 1 + 1 + 1, o3), (L + 1 + 1 + 1 + 1, o4)])
    (d1 : o1.data = .cell (some (.int (wd : Int) tw))) (d3 : o3.data = .cell (some (.ref Dd))) (hI : IntsAre ys ds) (hw1 : 1 ≤ wd) (hw3 : wd ≤ 3) (hl1 : 4 ≤ ds.length) (hl2 : ds.length ≤ 8)
    (hsz : lo.size = ds.length * wd)
    (k : ∀ h' tk', Fr h₀ L h' (fun y => if y = Str.ofString "high" then some (.bytes (swp lo wd) th) else if y = Str.ofString "low" then some (.bytes lo tl) else m y) → News h₀ L h' [(Dd, LCg.lst ys), (L + 1, o1), (L + 1 + 1, o2), (L + 1 + 1 + 1, o3), (L + 1 + 1 + 1 + 1, o4)] →
      wpG (model PySem.Challenge.rw_nq0008_01.row.prog w) (callerA.deeper (envOfC (Str.ofString "law") lawScope L fa cd)) (execs (lawStmts.drop 7) (envOfC (Str.ofString "law") lawScope L fa cd)) Q (fun _ _ => False) { s with heap := h', toks := tk' }) :
    wpG (model PySem.Challenge.rw_nq0008_01.row.prog w) (callerA.deeper (envOfC (Str.ofString "law") lawScope L fa cd)) (execs (lawStmts.drop 6) (envOfC (Str.ofString "law") lawScope L fa cd)) Q (fun _ _ => False) s := by
  revert X; k_fill; intro X
  generalize hsc : lawScope = sc at *
  conv at hsc => lhs; whnf
  subst hsc
  conv in List.drop 6 lawStmts => whnf
  conv at k in List.drop 7 lawStmts => whnf
  have hb : ds.length * wd ≤ 24 := Nat.mul_le_mul hl2 hw3
  have hs2 : swp (swp lo wd) wd = lo := swp_swp hw1 hsz
  have hs3 : swp lo lo.size = lo.reverse := swp_whole lo
  refine wpG_execs_cons (wpG_If (isTrueG_or (allTrueG_cons (.any ?_))))
  k_steps
  refine allTrueG_cons (isTrueG_Cmp (wpG_Call_Name ?_))
  k_steps
  refine callWithG_K X (by k_is) ?_
  k_steps
  k_dflt (refine' byteswap_call (c := ds.length) ?k1 ?k2 ?k3 ?k4 ?k5 ?kK ?kd ?ku ?w1 ?hc ?hz ?wz ?_; (case k1 => k_asm); (case k2 => k_asm); (case k3 => k_asm); (case k4 => k_asm); (case k5 => k_asm); (case kK => exact rfl); (case kd => ktr_room); (case ku => ktr_units); (case w1 => exact hw1); (case hc => rw [swp_size]; exact hsz); (case hz => rw [swp_size]; omega); (case wz => omega))
  intro t₅ h₅ tk₅ F₅ N₅
  rw [hs2]
  k_steps
  rw [show (lo.toList != lo.toList) = false by simp]
  refine .any (wpAny_truthy_bool ?_)
  rw [if_neg (by decide)]
  obtain ⟨ks, hK⟩ : ∃ ks, KBw.bInts lo = ks := ⟨_, rfl⟩
  have hKl : ks.length = lo.size := by rw [← hK, KBw.ints_length]
  have hKz : ks.length ≤ 10000 := by omega
  refine allTrueG_cons (isTrueG_Cmp (wpG_Call_Name ?_))
  k_steps
  refine callWithG_K X (by k_is) ?_
  k_steps
  have hb4 : 4 * 1 ≤ ds.length * wd := Nat.mul_le_mul hl1 hw1
  k_dflt (refine' byteswap_call (c := 1) ?k1 ?k2 ?k3 ?k4 ?k5 ?kK ?kd ?ku ?w1 ?hc ?hz ?wz ?_; (case k1 => k_asm); (case k2 => k_asm); (case k3 => k_asm); (case k4 => k_asm); (case k5 => k_asm); (case kK => exact rfl); (case kd => ktr_room); (case ku => ktr_units); (case w1 => omega); (case hc => omega); (case hz => omega); (case wz => omega))
  intro t₆ h₆ tk₆ F₆ N₆
  rw [hKl, hs3]
  k_steps
  (with_reducible rename Fr _ _ _ _ => F₇)
  (with_reducible rename News _ _ _ _ => N₇)
  refine rev_K (s := ⟨_, _, _, _, _⟩) F₇ N₇ (by omega) ?_
  intro h₈ t₈ k₈ F₈ N₈
  k_steps
  rw [show (lo.reverse.toList != lo.reverse.toList) = false by simp]
  refine .any (wpAny_truthy_bool ?_)
  rw [if_neg (by decide)]
  refine allTrueG_nil ?_
  rw [if_neg (by decide)]
  refine wpG_execs_nil ?_
  exact k _ _ (by assumption) (by assumption)
end Mine
end

/-! ## S8 -/
section
open PySem PySem.W PyProof.Rows PySem.Calls PyProof.V PySem.Spec
set_option maxRecDepth 100000
set_option maxHeartbeats 8000000
namespace Mine
local macro_rules | `(tactic| walk_at "call type:type") => `(tactic| (k_here; (with_reducible show wpAny _ _ (call (Value.type "type") [Value.bytes _ _]) _ _ _); (refine call_type_of (typeIs_bytes _ _ _) (by decide) ?_)))
local macro_rules | `(tactic| walk_at "compareOp IsNot type:bytes type:bytes") => `(tactic| (k_here; (with_reducible show wpAny _ _ (compareOp CmpOp.IsNot (Value.type "bytes") (Value.type "bytes")) _ _ _); (refine isnot_type_same ?_)))
theorem sorted_nilK {prog : Program} {w : World} {A : Around} {E : Value → Shared → Prop} {s : Shared} {h₀ : Heap} {L : Addr} {m : Str → Option Value} {news : List (Addr × Obj)} {l : Addr} {Q : Value → Shared → Prop}
    (F : Fr h₀ L s.heap m) (N : News h₀ L s.heap news) (hl : s.heap.IsList l #[])
    (h : ∀ D c h', Fr h₀ L h' m → News h₀ L h' ((D, W.listOf #[] c) :: news) → (∀ p ∈ news, p.1 < D) → Q (.ref D) { s with heap := h' }) :
    wpAny (model prog w) A (call (.builtin "sorted") [.ref l]) Q E s := by
  refine sorted_N (vs := []) (ns := []) F N hl .nil (by decide) fun h' vs' ns' e F' N' a b c => ?_
  have e1 : ns' = [] := List.perm_nil.mp b
  subst e1
  have e2 : vs' = [] := IntsAre.nil_inv a
  subst e2
  exact h _ e h' F' N' fun p hp => Nat.lt_succ_of_lt (Heap.lt_size (N p hp).1)
local macro_rules | `(tactic| walk_at "call builtin:sorted") => `(tactic| (k_here; (with_reducible show wpAny _ _ (call (Value.builtin "sorted") [Value.ref _]) _ _ _); (with_unfolding_all refine' sorted_nilK ?k1 ?k2 ?k3 ?_; (case k1 => k_asm); (case k2 => k_asm); (case k3 => kso_list); k_whole); intro D' c' h' F' N' l1; (try k_lt l1); (try k_sweep)))
local macro_rules | `(tactic| walk_at "call ref") => `(tactic| (k_here; (with_reducible show wpAny _ _ (call (Value.ref 77) _) _ _ _); k_dflt (refine wpAny_call ?_; (refine' code_tryC ?k1 ?k2 ?k3 ?k4 ?k5 ?kA ?kF ?kK ?k6 ?k7 ?k8 ?k9 ?kB ?_ ?c2 ?c3 ?c4 ?c5; (case kA => exact rfl); (case kF => exact rfl); (case kK => exact rfl); (case k2 => k_asm); (case k1 => k_asm); (case k3 => k_asm); (case k4 => k_asm); (case k5 => k_asm); (case k6 => k_is); (case k7 => k_is); (case k8 => k_room); (case k9 => exact BindsTo.of_eq rfl); (case kB => exact locs rfl); (case c2 => exact rfl); (case c3 => exact rfl); (case c4 => exact rfl); (case c5 => decide); k_whole; intro g' L' h' FG' F' N' B' X' T' D'; (try dsimp only); (try k_lift B'); (try k_fold)))))
local macro_rules | `(tactic| walk_at "call ref") => `(tactic| (k_here; (with_reducible show wpAny _ _ (call (Value.ref 34) _) _ _ _); k_dflt (refine wpAny_call ?_; kts_go)))
local macro_rules | `(tactic| walk_at "call ref") => `(tactic| (k_here; (with_reducible show wpAny _ _ (call (Value.ref 41) _) _ _ _); k_dflt (refine wpAny_call ?_; kts_go)))
theorem st8 {w : World} {h₀ : Heap} {L fa : Addr} {cd : Value} {m : Str → Option Value} {s : Shared} {p : Program} {loose : List Str} {mean : ExcName → Option Value} {mg mb : Str → Option Value} {Q : Flow → Shared → Prop}
    {Dd : Addr} {ys : List Value} {ds : List Int} {o1 o2 o3 o4 : Obj} {wd : Nat} {tw : Tok} {tl th : Tok} {lo : Array UInt8}
    (B : Below callerA h₀ [] h₀) (F : Fr h₀ L s.heap (fun y => if y = Str.ofString "high" then some (.bytes (swp lo wd) th) else if y = Str.ofString "low" then some (.bytes lo tl) else m y)) (X : (Mine.hd.heap_39 w.params).In h₀) (T : Top p loose mean mg mb h₀)
    (N : News h₀ L s.heap [(Dd, LCg.lst ys), (L + 1, o1), (L + 1 + 1, o2), (L + 1 + 1 + 1, o3), (L + 1 + 1 + 1 + 1, o4)])
    (d1 : o1.data = .cell (some (.int (wd : Int) tw))) (d3 : o3.data = .cell (some (.ref Dd))) (hI : IntsAre ys ds) (hw1 : 1 ≤ wd) (hw3 : wd ≤ 3) (hl1 : 4 ≤ ds.length) (hl2 : ds.length ≤ 8)
    (hsz : lo.size = ds.length * wd)
    (k : ∀ h' tk', Fr h₀ L h' (fun y => if y = Str.ofString "high" then some (.bytes (swp lo wd) th) else if y = Str.ofString "low" then some (.bytes lo tl) else m y) → News h₀ L h' [(Dd, LCg.lst ys), (L + 1, o1), (L + 1 + 1, o2), (L + 1 + 1 + 1, o3), (L + 1 + 1 + 1 + 1, o4)] →
      wpG (model PySem.Challenge.rw_nq0008_01.row.prog w) (callerA.deeper (envOfC (Str.ofString "law") lawScope L fa cd)) (execs (lawStmts.drop 8) (envOfC (Str.ofString "law") lawScope L fa cd)) Q (fun _ _ => False) { s with heap := h', toks := tk' }) :
    wpG (model PySem.Challenge.rw_nq0008_01.row.prog w) (callerA.deeper (envOfC (Str.ofString "law") lawScope L fa cd)) (execs (lawStmts.drop 7) (envOfC (Str.ofString "law") lawScope L fa cd)) Q (fun _ _ => False) s := by
  revert X; k_fill; intro X
  generalize hsc : lawScope = sc at *
  conv at hsc => lhs; whnf
  subst hsc
  conv in List.drop 7 lawStmts => whnf
  conv at k in List.drop 8 lawStmts => whnf
  refine wpG_execs_any ?_
  k_steps
  (with_reducible rename News h₀ L _ _ => N₉)
  exact k _ _ (by assumption) (cb_drop N₉ fun q hq => by repeat (first | exact hq | refine List.Mem.tail _ ?_))
end Mine
end

/-! ## S9 -/
section
open PySem PySem.W PyProof.Rows PySem.Calls PyProof.V PySem.Spec
set_option maxRecDepth 100000
set_option maxHeartbeats 8000000
namespace Mine
local macro_rules | `(tactic| k_room) => `(tactic| ktr_room)
local macro_rules | `(tactic| k_units) => `(tactic| ktr_units)
local macro_rules | `(tactic| walk_at "call ref") => `(tactic| (k_here; (with_reducible show wpAny _ _ (call (Value.ref 65) [Value.bytes _ _]) _ _ _); k_dflt (refine' turned_call ?k1 ?k2 ?k3 ?k4 ?k5 ?kK ?kd ?ku ?h1 ?h6 ?_; (case k1 => k_asm); (case k2 => k_asm); (case k3 => k_asm); (case k4 => k_asm); (case k5 => k_asm); (case kK => exact rfl); (case kd => ktr_room); (case ku => ktr_units); (case h1 => omega); (case h6 => omega)); intro t' h' tk' F' N'))
theorem st9 {w : World} {h₀ : Heap} {L fa : Addr} {cd : Value} {m : Str → Option Value} {s : Shared} {p : Program} {loose : List Str} {mean : ExcName → Option Value} {mg mb : Str → Option Value} {Q : Flow → Shared → Prop}
    {Dd : Addr} {ys : List Value} {ds : List Int} {o1 o2 o3 o4 : Obj} {wd : Nat} {tw : Tok} {tl th : Tok}
    (B : Below callerA h₀ [] h₀) (F : Fr h₀ L s.heap (fun y => if y = Str.ofString "high" then some (.bytes (swp (flat (ds.map fun x => octs x (wd : Int))) wd) th) else if y = Str.ofString "low" then some (.bytes (flat (ds.map fun x => octs x (wd : Int))) tl) else m y)) (X : (Mine.hd.heap_39 w.params).In h₀) (T : Top p loose mean mg mb h₀)
    (N : News h₀ L s.heap [(Dd, LCg.lst ys), (L + 1, o1), (L + 1 + 1, o2), (L + 1 + 1 + 1, o3), (L + 1 + 1 + 1 + 1, o4)])
    (d1 : o1.data = .cell (some (.int (wd : Int) tw))) (d3 : o3.data = .cell (some (.ref Dd))) (hI : IntsAre ys ds) (hw1 : 1 ≤ wd) (hw3 : wd ≤ 3) (hl1 : 4 ≤ ds.length) (hl2 : ds.length ≤ 8)
    (d4 : o4.data = .cell none) (hne : @Ne Nat (L + 1 + 1 + 1 + 1) Dd)
    (k : ∀ Dt l o4' h' tk', Fr h₀ L h' (fun y => if y = Str.ofString "high" then some (.bytes (swp (flat (ds.map fun x => octs x (wd : Int))) wd) th) else if y = Str.ofString "low" then some (.bytes (flat (ds.map fun x => octs x (wd : Int))) tl) else m y) →
      News h₀ L h' [(Dt, LCg.lst (bv l)), (Dd, LCg.lst ys), (L + 1, o1), (L + 1 + 1, o2), (L + 1 + 1 + 1, o3), (L + 1 + 1 + 1 + 1, o4')] → o4'.data = .cell (some (.ref Dt)) → l.map (·.1) = ds.map (enc wd) →
      wpG (model PySem.Challenge.rw_nq0008_01.row.prog w) (callerA.deeper (envOfC (Str.ofString "law") lawScope L fa cd)) (execs (lawStmts.drop 9) (envOfC (Str.ofString "law") lawScope L fa cd)) Q (fun _ _ => False) { s with heap := h', toks := tk' }) :
    wpG (model PySem.Challenge.rw_nq0008_01.row.prog w) (callerA.deeper (envOfC (Str.ofString "law") lawScope L fa cd)) (execs (lawStmts.drop 8) (envOfC (Str.ofString "law") lawScope L fa cd)) Q (fun _ _ => False) s := by
  revert X; k_fill; intro X
  generalize hsc : lawScope = sc at *
  conv at hsc => lhs; whnf
  subst hsc
  conv in List.drop 8 lawStmts => whnf
  conv at k in List.drop 9 lawStmts => whnf
  have hsz : (flat (ds.map fun x => octs x (wd : Int))).size = ds.length * wd := track_size
  have hsz2 : (swp (flat (ds.map fun x => octs x (wd : Int))) wd).size = ds.length * wd := by rw [swp_size]; exact hsz
  have hb : ds.length * wd ≤ 24 := Nat.mul_le_mul hl2 hw3
  refine wpG_execs_any ?_
  refine wpAny_Assign_Name ?_
  refine LCg.ListComp_U (by assumption) rfl (by decide) rfl (by decide) rfl ?_
  iterate 9 (first | walk1 | (dsimp only; walk1))
  k_dflt (refine' words_call (c := ds.length) ?k1 ?k2 ?k3 ?k4 ?k5 ?kK ?kd ?ku ?h1 ?hc ?hcz ?hwz ?hz ?_; (case k1 => k_asm); (case k2 => k_asm); (case k3 => k_asm); (case k4 => k_asm); (case k5 => k_asm); (case kK => exact rfl); (case kd => ktr_room); (case ku => ktr_units); (case h1 => exact hw1); (case hc => exact hsz2); (case hcz => omega); (case hwz => omega); (case hz => omega))
  intro Dw lw h₃ tk₃ hlw F₃ N₃ hneW
  have hll : lw.length = ds.length := by have := congrArg List.length hlw; simpa using this
  have hws : ∀ x ∈ lw, x.1.size = wd := by
    intro x hx
    have : x.1 ∈ lw.map (·.1) := List.mem_map_of_mem hx
    rw [hlw] at this
    obtain ⟨i, hi, e⟩ := List.mem_map.mp this
    rw [← e]
    refine wordAt_size ?_
    rw [hsz2]
    have : (i + 1) * wd ≤ ds.length * wd := Nat.mul_le_mul_right _ (List.mem_range.mp hi)
    rw [Nat.succ_mul] at this
    exact this
  have hsl : (bv lw).toArray.size = lw.length := by rw [List.size_toArray, bv_length]
  refine LCg.CompSrc.ledger (its := (bv lw).toArray) (k := (bv lw).length) rfl (by assumption) (by assumption) (.head _) (by rw [sizeLine_eq, hsl]; omega) fun g₂ => ?_
  refine compRest_inv (n := (bv lw).toArray.size) (fun i zs news₁ => news₁ = _ ∧ ∃ l, zs = bv l ∧ l.map (·.1) = (lw.map fun x => turnB x.1).take i) ?_ ?_ _ 0 [] _ rfl ⟨rfl, [], rfl, rfl⟩
  · rintro i zs news₁ hi ⟨rfl, l, rfl, hl⟩ v I oI C oC D m₂ h₄ tk₄ E' hv hC hx F₄ N₄ off ne
    obtain ⟨b, t, hlx, rfl⟩ := bv_get (l := lw) (i := i) (by simpa using hv)
    have hbz := hws (b, t) (List.mem_of_getElem? hlx)
    dsimp only at hbz
    k_steps
    refine LCg.CompEnd.intro (by assumption) (by assumption) _ (fun q hq => hq) off (.inr ⟨_, .head _, rfl, _, rfl⟩) ⟨rfl, l ++ [(turnB b, _)], by rw [bv_append]; rfl, ?_⟩
    rw [List.map_append, hl, List.take_add_one, List.getElem?_map, hlx]
    rfl
  · rintro zs news₁ ⟨rfl, l, rfl, hl⟩
    intro D h₄ tk₄ F₄ N₄ off₄
    have hl' : l.map (·.1) = lw.map fun x => turnB x.1 := by rw [hl, hsl, List.take_of_length_le (by simp)]
    have henc : l.map (·.1) = ds.map (enc wd) := track_words hw1 hlw hl'
    have q1 : L + 1 + 1 + 1 + 1 ≠ Dw := hneW (L + 1 + 1 + 1 + 1, o4) (by simp)
    simp only [LCg.Off1, and_true] at off₄
    refine storeX_C F₄ N₄ rfl (.tail (Ne.symm off₄.2.2.2.2.2) (.tail (Ne.symm q1) (.tail (Ne.symm hne) (.tail (Nat.ne_of_lt (by omega)) (.tail (Nat.ne_of_lt (by omega)) (.tail (Nat.ne_of_lt (by omega)) (.head (fun _ h => nomatch h)))))))) d4 ?_
    intro h₅ o₅ F₅ N₅ d₅
    exact k D l o₅ h₅ _ F₅ (cb_drop N₅ fun q hq => by
      rcases List.mem_cons.mp hq with rfl | hq
      · exact .head _
      · exact .tail _ (.tail _ hq)) d₅ henc
end Mine
end

/-! ## S10 -/
section
open PySem PySem.W PyProof.Rows PySem.Calls PyProof.V PySem.Spec
set_option maxRecDepth 100000
set_option maxHeartbeats 8000000
namespace Mine
local macro_rules | `(tactic| k_room) => `(tactic| ktr_room)
local macro_rules | `(tactic| k_units) => `(tactic| ktr_units)
local macro_rules | `(tactic| walk_at "call ref") => `(tactic| (k_here; (with_reducible show wpAny _ _ (call (Value.ref 65) [Value.bytes _ _]) _ _ _); k_dflt (refine' turned_call ?k1 ?k2 ?k3 ?k4 ?k5 ?kK ?kd ?ku ?h1 ?h6 ?_; (case k1 => k_asm); (case k2 => k_asm); (case k3 => k_asm); (case k4 => k_asm); (case k5 => k_asm); (case kK => exact rfl); (case kd => ktr_room); (case ku => ktr_units); (case h1 => omega); (case h6 => omega)); intro t' h' tk' F' N'))
/-- pairs of bounds, each a tuple of the ledger's -/
def PairsOK (n : Nat) (zs : List Value) (tups : List (Addr × Obj)) : Prop := ∀ v ∈ zs, ∃ (t : Addr) (ot : Obj) (a b : Nat) (ta tb : Tok) (nt : Nat), v = .ref t ∧ (t, ot) ∈ tups ∧ ot.cls = .type "tuple" ∧ ot.data = .seq #[.int (a : Int) ta, .int (b : Int) tb] nt ∧ a < b ∧ b ≤ n
theorem rsmall {a b : Int} (h0 : 0 ≤ a) (h1 : a ≤ b) (h2 : b ≤ 1000000) : Builtin.Range.small a b 1 = true ∧ Builtin.Range.rangeSize a b 1 = b - a := by
  have e : Builtin.Range.rangeSize a b 1 = b - a := by
    unfold Builtin.Range.rangeSize
    rw [if_pos (by decide)]
    split
    · rw [Int.ediv_one]; omega
    · omega
  refine ⟨?_, e⟩
  unfold Builtin.Range.small
  simp only [Builtin.Range.rangeFitsLong, e, Bool.and_eq_true, Bool.or_eq_true, decide_eq_true_eq, beq_iff_eq]
  simp
  omega
theorem st10 {w : World} {h₀ : Heap} {L fa : Addr} {cd : Value} {m : Str → Option Value} {s : Shared} {p : Program} {loose : List Str} {mean : ExcName → Option Value} {mg mb : Str → Option Value} {Q : Flow → Shared → Prop}
    {Dd : Addr} {ys : List Value} {ds : List Int} {o1 o2 o3 o4 : Obj} {wd : Nat} {tw : Tok} {Dt : Addr} {l : List (Array UInt8 × Tok)}
    (B : Below callerA h₀ [] h₀) (F : Fr h₀ L s.heap m) (X : (Mine.hd.heap_39 w.params).In h₀) (T : Top p loose mean mg mb h₀)
    (N : News h₀ L s.heap [(Dt, LCg.lst (bv l)), (Dd, LCg.lst ys), (L + 1, o1), (L + 1 + 1, o2), (L + 1 + 1 + 1, o3), (L + 1 + 1 + 1 + 1, o4)])
    (d1 : o1.data = .cell (some (.int (wd : Int) tw))) (d3 : o3.data = .cell (some (.ref Dd))) (hI : IntsAre ys ds) (hw1 : 1 ≤ wd) (hw3 : wd ≤ 3) (hl1 : 4 ≤ ds.length) (hl2 : ds.length ≤ 8)
    (k : ∀ De zs tups h' tk', Fr h₀ L h' (fun y => if y = Str.ofString "ends" then some (.ref De) else m y) → News h₀ L h' ((De, LCg.lst zs) :: (Dt, LCg.lst (bv l)) :: (Dd, LCg.lst ys) :: (L + 1, o1) :: (L + 1 + 1, o2) :: (L + 1 + 1 + 1, o3) :: (L + 1 + 1 + 1 + 1, o4) :: tups) → PairsOK ds.length zs tups →
      wpG (model PySem.Challenge.rw_nq0008_01.row.prog w) (callerA.deeper (envOfC (Str.ofString "law") lawScope L fa cd)) (execs (lawStmts.drop 10) (envOfC (Str.ofString "law") lawScope L fa cd)) Q (fun _ _ => False) { s with heap := h', toks := tk' }) :
    wpG (model PySem.Challenge.rw_nq0008_01.row.prog w) (callerA.deeper (envOfC (Str.ofString "law") lawScope L fa cd)) (execs (lawStmts.drop 9) (envOfC (Str.ofString "law") lawScope L fa cd)) Q (fun _ _ => False) s := by
  revert X; k_fill; intro X
  generalize hsc : lawScope = sc at *
  conv at hsc => lhs; whnf
  subst hsc
  conv in List.drop 9 lawStmts => whnf
  conv at k in List.drop 10 lawStmts => whnf
  have hyl : ys.length = ds.length := hI.length
  refine wpG_execs_any ?_
  refine Assign_ListComp2 (by assumption) rfl rfl rfl (by decide) rfl (by decide) rfl rfl (by decide) rfl rfl (fun _ _ => rfl) ?_
  k_steps
  refine ⟨_, _, _, _, _, ds.length, _, rfl, rfl, by assumption, by assumption, by assumption, (rsmall (by omega) (by omega) (by omega)).1, by rw [(rsmall (by omega) (by omega) (by omega)).2]; omega, ?_⟩
  rintro s₂ ⟨hh₂, tk₂, rfl⟩
  refine ⟨fun i zs nw => ∃ tups, nw = (Dt, LCg.lst (bv l)) :: (Dd, LCg.lst ys) :: (L + 1, o1) :: (L + 1 + 1, o2) :: (L + 1 + 1 + 1, o3) :: (L + 1 + 1 + 1 + 1, o4) :: tups ∧ PairsOK ds.length zs tups ∧ zs.length ≤ 8 * i, fun i j zs nw => ∃ tups, nw = (Dt, LCg.lst (bv l)) :: (Dd, LCg.lst ys) :: (L + 1, o1) :: (L + 1 + 1, o2) :: (L + 1 + 1 + 1, o3) :: (L + 1 + 1 + 1 + 1, o4) :: tups ∧ PairsOK ds.length zs tups ∧ zs.length ≤ 8 * i + j, fun i => ds.length - i, fun i => (i : Int) + 1, ⟨?ca, ?cb, ?cc, ?cd, ?ce, ?cf⟩⟩
  case ca => exact ⟨[], rfl, (fun _ h => nomatch h), Nat.le_refl _⟩
  case cb =>
    rintro i zs nw hi ⟨tups, rfl, _, hz⟩
    rw [sizeLine_eq]
    omega
  case ce =>
    rintro i zs nw hi ⟨tups, rfl, hp, hz⟩
    exact ⟨tups, rfl, hp, by omega⟩
  case cf =>
    rintro zs nw ⟨tups, rfl, hp, hz⟩
    intro De h₃ tk₃ F₃ N₃ _
    exact k De zs tups _ _ F₃ N₃ hp
  case cc =>
    rintro i zs nw hi ⟨tups, rfl, hp, hz⟩ I oI C oC D m₂ h₃ tk₃ E' t hC hx F₃ N₃ off ne
    k_steps
    exact ⟨_, _, _, _, _, _, _, _, rfl, rfl, by assumption, by assumption, off, by assumption, (rsmall (by omega) (by omega) (by omega)).1, by rw [(rsmall (by omega) (by omega) (by omega)).2]; omega, tups, rfl, hp, hz⟩
  case cd =>
    rintro i j zs nw hi hj ⟨tups, rfl, hp, hz⟩ I2 oI2 I oI C oC D m₂ h₃ tk₃ E' t t' hC hx hy F₃ N₃ off off' ne
    k_steps
    rename_i D₉ h₉ F₉ N₉ l₉
    generalize hot : ({ cls := .type "tuple", data := .seq #[.int (i : Int) t, .int ((i : Int) + 1 + (j : Int)) t'] } : Obj) = ot at N₉
    refine ⟨_, _, (Dt, LCg.lst (bv l)) :: (Dd, LCg.lst ys) :: (L + 1, o1) :: (L + 1 + 1, o2) :: (L + 1 + 1 + 1, o3) :: (L + 1 + 1 + 1 + 1, o4) :: (D₉, ot) :: tups, rfl, F₉, cb_drop N₉ fun q hq => ?_, LCg.Off3.of fun q hq => ?_, LCg.Off3.of fun q hq => ?_, (D₉, ot) :: tups, rfl, ?_, ?_⟩
    · simp only [List.mem_cons] at hq ⊢
      rcases hq with e | e | e | e | e | e | e | e | e | e | e | e <;> simp [e]
    · have hq' : q = (D₉, ot) ∨ q ∈ (I, oI) :: (Dt, LCg.lst (bv l)) :: (Dd, LCg.lst ys) :: (L + 1, o1) :: (L + 1 + 1, o2) :: (L + 1 + 1 + 1, o3) :: (L + 1 + 1 + 1 + 1, o4) :: tups := by
        simp only [List.mem_cons] at hq ⊢
        rcases hq with e | e | e | e | e | e | e | e <;> simp [e]
      rcases hq' with rfl | hq'
      · exact ⟨Nat.ne_of_gt l₉.1, Nat.ne_of_gt l₉.2.1, Nat.ne_of_gt l₉.2.2.1⟩
      · exact off.mem q hq'
    · have hq' : q = (D₉, ot) ∨ q ∈ (Dt, LCg.lst (bv l)) :: (Dd, LCg.lst ys) :: (L + 1, o1) :: (L + 1 + 1, o2) :: (L + 1 + 1 + 1, o3) :: (L + 1 + 1 + 1 + 1, o4) :: tups := by
        simp only [List.mem_cons] at hq ⊢
        rcases hq with e | e | e | e | e | e | e | e <;> simp [e]
      rcases hq' with rfl | hq'
      · exact ⟨Nat.ne_of_gt l₉.2.2.2.1, Nat.ne_of_gt l₉.2.1, Nat.ne_of_gt l₉.2.2.1⟩
      · exact off'.mem q hq'
    · intro v hv
      rcases List.mem_append.mp hv with hv | hv
      · obtain ⟨t₁, ot, a₁, b₁, ta, tb, nt, r1, r2, r3⟩ := hp v hv
        exact ⟨t₁, ot, a₁, b₁, ta, tb, nt, r1, .tail _ r2, r3⟩
      · rw [List.mem_singleton.mp hv]
        exact ⟨D₉, ot, i, i + 1 + j, t, t', 0, rfl, .head _, by rw [← hot], by rw [← hot]; rfl, by omega, by omega⟩
    · rw [List.length_append, List.length_singleton]
      omega
end Mine
end

/-! ## S11 -/
section
open PySem PySem.W PyProof.Rows PySem.Calls PyProof.V PySem.Spec
set_option maxRecDepth 100000
set_option maxHeartbeats 8000000
namespace Mine
local macro_rules | `(tactic| k_room) => `(tactic| ktr_room)
local macro_rules | `(tactic| k_units) => `(tactic| ktr_units)
local macro_rules | `(tactic| walk_at "call ref") => `(tactic| (k_here; (with_reducible show wpAny _ _ (call (Value.ref 65) [Value.bytes _ _]) _ _ _); k_dflt (refine' turned_call ?k1 ?k2 ?k3 ?k4 ?k5 ?kK ?kd ?ku ?h1 ?h6 ?_; (case k1 => k_asm); (case k2 => k_asm); (case k3 => k_asm); (case k4 => k_asm); (case k5 => k_asm); (case kK => exact rfl); (case kd => ktr_room); (case ku => ktr_units); (case h1 => omega); (case h6 => omega)); intro t' h' tk' F' N'))
theorem st11 {w : World} {h₀ : Heap} {L fa : Addr} {cd : Value} {m : Str → Option Value} {s : Shared} {p : Program} {loose : List Str} {mean : ExcName → Option Value} {mg mb : Str → Option Value} {Q : Flow → Shared → Prop}
    {Dd : Addr} {ys : List Value} {ds : List Int} {o1 o2 o3 o4 : Obj} {wd : Nat} {tw : Tok} {Dt De : Addr} {l : List (Array UInt8 × Tok)} {zs : List Value} {tups : List (Addr × Obj)}
    (B : Below callerA h₀ [] h₀) (F : Fr h₀ L s.heap (fun y => if y = Str.ofString "ends" then some (.ref De) else m y)) (X : (Mine.hd.heap_39 w.params).In h₀) (T : Top p loose mean mg mb h₀)
    (N : News h₀ L s.heap ((De, LCg.lst zs) :: (Dt, LCg.lst (bv l)) :: (Dd, LCg.lst ys) :: (L + 1, o1) :: (L + 1 + 1, o2) :: (L + 1 + 1 + 1, o3) :: (L + 1 + 1 + 1 + 1, o4) :: tups))
    (d1 : o1.data = .cell (some (.int (wd : Int) tw))) (d3 : o3.data = .cell (some (.ref Dd))) (hI : IntsAre ys ds) (hw1 : 1 ≤ wd) (hw3 : wd ≤ 3) (hl1 : 4 ≤ ds.length) (hl2 : ds.length ≤ 8)
    (d4 : o4.data = .cell (some (.ref Dt))) (henc : l.map (·.1) = ds.map (enc wd)) (hW : InW wd ds)
    (k : ∀ h' tk', Fr h₀ L h' (fun y => if y = Str.ofString "ends" then some (.ref De) else m y) → News h₀ L h' ((De, LCg.lst zs) :: (Dt, LCg.lst (bv l)) :: (Dd, LCg.lst ys) :: (L + 1, o1) :: (L + 1 + 1, o2) :: (L + 1 + 1 + 1, o3) :: (L + 1 + 1 + 1 + 1, o4) :: tups) →
      wpG (model PySem.Challenge.rw_nq0008_01.row.prog w) (callerA.deeper (envOfC (Str.ofString "law") lawScope L fa cd)) (execs (lawStmts.drop 11) (envOfC (Str.ofString "law") lawScope L fa cd)) Q (fun _ _ => False) { s with heap := h', toks := tk' }) :
    wpG (model PySem.Challenge.rw_nq0008_01.row.prog w) (callerA.deeper (envOfC (Str.ofString "law") lawScope L fa cd)) (execs (lawStmts.drop 10) (envOfC (Str.ofString "law") lawScope L fa cd)) Q (fun _ _ => False) s := by
  revert X; k_fill; intro X
  generalize hsc : lawScope = sc at *
  conv at hsc => lhs; whnf
  subst hsc
  conv in List.drop 10 lawStmts => whnf
  conv at k in List.drop 11 lawStmts => whnf
  have hyl : ys.length = ds.length := hI.length
  have hll : l.length = ds.length := by have := congrArg List.length henc; simpa using this
  refine wpG_execs_cons (wpG_If (isTrueG_not (isTrueG_Call (wpG_Call_Name ?_))))
  k_steps
  refine callWithG_K X (by k_is) ?_
  k_steps
  have hLt : ∀ h', News h₀ L h' ((De, LCg.lst zs) :: (Dt, LCg.lst (bv l)) :: (Dd, LCg.lst ys) :: (L + 1, o1) :: (L + 1 + 1, o2) :: (L + 1 + 1 + 1, o3) :: (L + 1 + 1 + 1 + 1, o4) :: tups) → h'.IsList Dt (bv l).toArray := fun h' N' => ⟨_, (N' _ (.tail _ (.head _))).1, rfl, _, rfl⟩
  refine kmk_add_lit (its := (bv l).toArray) (its2 := (bv l).toArray) (zs := bv (l ++ l)) (by assumption) (by assumption) (hLt _ (by assumption)) (hLt _ (by assumption)) (by rw [bv_append]) ?_ (by rw [sizeLine_eq]; simp only [bv_length]; omega)
  intro D₃ h₃ F₃ N₃ l₃
  k_steps
  rename_i D₄ ws₄ h₄ F₄ N₄ hI₄ l₄
  have hW2 : InW wd (ds ++ ds) := fun d hd => (List.mem_append.mp hd).elim (hW d) (hW d)
  k_dflt (refine' told_true (l := l ++ l) (ns := ds ++ ds) (vs := ws₄) (e := 0) (e' := 0) ?k1 ?k2 ?k3 ?k4 ?k5 ?kK ?kd ?ku ?hm ?hn hI₄ ?h1 ?h6 hw1 hw3 ?he hW2 ?_; (case k1 => k_asm); (case k2 => k_asm); (case k3 => k_asm); (case k4 => k_asm); (case k5 => k_asm); (case kK => exact rfl); (case kd => ktr_room); (case ku => ktr_units); (case hm => exact .tail _ (.head _)); (case hn => exact .head _); (case h1 => simp only [List.length_append]; omega); (case h6 => simp only [List.length_append]; omega); (case he => rw [List.map_append, List.map_append, henc]))
  intro h₅ tk₅ F₅ N₅
  refine wpAny_truthy_bool ?_
  rw [if_neg (by decide)]
  refine wpG_execs_nil ?_
  exact k _ _ F₅ (cb_drop N₅ fun q hq => .tail _ (.tail _ hq))
end Mine
end

/-! ## S12 -/
section
open PySem PySem.W PyProof.Rows PySem.Calls PyProof.V PySem.Spec
set_option maxRecDepth 100000
set_option maxHeartbeats 8000000
namespace Mine
local macro_rules | `(tactic| k_room) => `(tactic| ktr_room)
local macro_rules | `(tactic| k_units) => `(tactic| ktr_units)
local macro_rules | `(tactic| walk_at "call ref") => `(tactic| (k_here; (with_reducible show wpAny _ _ (call (Value.ref 65) [Value.bytes _ _]) _ _ _); k_dflt (refine' turned_call ?k1 ?k2 ?k3 ?k4 ?k5 ?kK ?kd ?ku ?h1 ?h6 ?_; (case k1 => k_asm); (case k2 => k_asm); (case k3 => k_asm); (case k4 => k_asm); (case k5 => k_asm); (case kK => exact rfl); (case kd => ktr_room); (case ku => ktr_units); (case h1 => omega); (case h6 => omega)); intro t' h' tk' F' N'))
theorem st12 {w : World} {h₀ : Heap} {L fa : Addr} {cd : Value} {m : Str → Option Value} {s : Shared} {p : Program} {loose : List Str} {mean : ExcName → Option Value} {mg mb : Str → Option Value} {Q : Flow → Shared → Prop}
    {Dd : Addr} {ys : List Value} {ds : List Int} {o1 o2 o3 o4 : Obj} {wd : Nat} {tw : Tok} {Dt De : Addr} {l : List (Array UInt8 × Tok)} {zs : List Value} {tups : List (Addr × Obj)}
    (B : Below callerA h₀ [] h₀) (F : Fr h₀ L s.heap (fun y => if y = Str.ofString "ends" then some (.ref De) else m y)) (X : (Mine.hd.heap_39 w.params).In h₀) (T : Top p loose mean mg mb h₀)
    (N : News h₀ L s.heap ((De, LCg.lst zs) :: (Dt, LCg.lst (bv l)) :: (Dd, LCg.lst ys) :: (L + 1, o1) :: (L + 1 + 1, o2) :: (L + 1 + 1 + 1, o3) :: (L + 1 + 1 + 1 + 1, o4) :: tups))
    (d1 : o1.data = .cell (some (.int (wd : Int) tw))) (d3 : o3.data = .cell (some (.ref Dd))) (hI : IntsAre ys ds) (hw1 : 1 ≤ wd) (hw3 : wd ≤ 3) (hl1 : 4 ≤ ds.length) (hl2 : ds.length ≤ 8)
    (d4 : o4.data = .cell (some (.ref Dt))) (henc : l.map (·.1) = ds.map (enc wd)) (hW : InW wd ds) (hP : PairsOK ds.length zs tups)
    (k : ∀ h' tk', Fr h₀ L h' (fun y => if y = Str.ofString "ends" then some (.ref De) else m y) → Q (.ret (.bool true)) { s with heap := h', toks := tk' }) :
    wpG (model PySem.Challenge.rw_nq0008_01.row.prog w) (callerA.deeper (envOfC (Str.ofString "law") lawScope L fa cd)) (execs (lawStmts.drop 11) (envOfC (Str.ofString "law") lawScope L fa cd)) Q (fun _ _ => False) s := by
  revert X; k_fill; intro X
  generalize hsc : lawScope = sc at *
  conv at hsc => lhs; whnf
  subst hsc
  conv in List.drop 11 lawStmts => whnf
  have hyl : ys.length = ds.length := hI.length
  have hll : l.length = ds.length := by have := congrArg List.length henc; simpa using this
  refine wpG_execs_cons (wpG_Return_some (evalG_Cmp (ListCompG (by assumption) rfl (by decide) rfl (by decide) rfl rfl (by decide) ?_)))
  k_steps
  refine ⟨De, zs.toArray, _, rfl, rfl, by assumption, by assumption, .inr ⟨_, .head _, rfl, _, rfl⟩, ?_, ?_⟩
  · intro i v hv
    obtain ⟨t, ot, a, b, ta, tb, nt, rfl, htm, hcl, hdt, hab, hbn⟩ := hP v (by rw [← List.mem_toArray]; exact Array.mem_of_getElem? hv)
    refine ⟨t, ot, _, _, nt, rfl, ?_, hcl, hdt, ?_⟩
    · repeat (first | exact htm | refine List.Mem.tail _ ?_)
    intro I oI C oC D m₂ h₃ tk₃ hC hx hy F₃ N₃ off ne
    refine isTrueG_not (isTrueG_Call (wpG_Call_Name ?_))
    k_steps
    refine callWithG_K X (by k_is) ?_
    k_steps
    have hDt : h₃.IsList Dt (bv l).toArray := ⟨_, (N₃ _ (.tail _ (.tail _ (.tail _ (.tail _ (.head _)))))).1, rfl, _, rfl⟩
    have hbs : (bv l).toArray.size = ds.length := by rw [List.size_toArray, bv_length, hll]
    refine kmk_slice_lit (s := ⟨_, _, _, _, _⟩) (its := (bv l).toArray) (zs := bv ((l.drop a).take (b - a))) F₃ N₃ hDt (.int _ _) (.int _ _) (by rw [slicePick_run _ a b (by omega) (by omega)]; simp [bv, List.map_take, List.map_drop]) ?_ (by with_unfolding_all rfl) (by intro _; with_unfolding_all rfl) (by rw [sizeLine_eq, hbs]; omega)
    intro D₄ h₄ F₄ N₄ l₄
    k_steps
    rename_i D₅ ws₅ h₅ F₅ N₅ hI₅ hC₅ hL₅ l₅
    have e1 : List.take (min ((b : Int)).toNat ds.length - ((a : Int)).toNat) (List.drop ((a : Int)).toNat ds) = (ds.drop a).take (b - a) := by rw [show ((a : Int)).toNat = a by omega, show min ((b : Int)).toNat ds.length = b by omega]
    rw [e1] at hI₅
    have hlen : ((ds.drop a).take (b - a)).length = b - a := by rw [List.length_take, List.length_drop]; omega
    have hW2 : InW wd ((ds.drop a).take (b - a)) := fun d hd => hW d (List.mem_of_mem_drop (List.mem_of_mem_take hd))
    k_dflt (refine' told_true (l := (l.drop a).take (b - a)) (ns := (ds.drop a).take (b - a)) (vs := ws₅) (e := 0) (e' := 0) ?k1 ?k2 ?k3 ?k4 ?k5 ?kK ?kd ?ku ?hm ?hn hI₅ ?h1 ?h6 hw1 hw3 ?he hW2 ?_; (case k1 => k_asm); (case k2 => k_asm); (case k3 => k_asm); (case k4 => k_asm); (case k5 => k_asm); (case kK => exact rfl); (case kd => ktr_room); (case ku => ktr_units); (case hm => exact .tail _ (.head _)); (case hn => exact .head _); (case h1 => omega); (case h6 => omega); (case he => rw [List.map_take, List.map_drop, henc, List.map_take, List.map_drop]))
    intro h₆ tk₆ F₆ N₆
    refine wpAny_truthy_bool ?_
    exact ⟨rfl, h₆, tk₆, rfl, F₆, cb_drop N₆ fun q hq => .tail _ (.tail _ hq)⟩
  · intro D h₃ tk₃ F₃ N₃ off
    k_steps
    exact k _ _ (by assumption)
end Mine
end

/-! ## Body -/
section
open PySem PySem.W PyProof.Rows PySem.Calls PyProof.V PySem.Spec
set_option maxRecDepth 100000
set_option maxHeartbeats 8000000
namespace Mine
theorem body_ok {w : World} {h₀ : Heap} {L fa : Addr} {cd : Value} {s : Shared} {p : Program} {loose : List Str} {mean : ExcName → Option Value} {mg mb : Str → Option Value} {Q : Flow → Shared → Prop}
    {l : Addr} {vs : List Value} {ns : List Int} {o1 o2 o3 o4 : Obj}
    (B : Below callerA h₀ [] h₀) (X : (Mine.hd.heap_39 w.params).In h₀) (T : Top p loose mean mg mb h₀) (hS : h₀.IsList l vs.toArray) (hI : IntsAre vs ns) (h63 : ¬ (63 : Int) < ns.length)
    (F : Fr h₀ L s.heap (fun y => if y = Str.ofString "script" then some (.ref l) else none)) (N : News h₀ L s.heap [(L + 1, o1), (L + 1 + 1, o2), (L + 1 + 1 + 1, o3), (L + 1 + 1 + 1 + 1, o4)])
    (d1 : o1.data = .cell none) (d2 : o2.data = .cell none) (d3 : o3.data = .cell none) (d4 : o4.data = .cell none)
    (ret : ∀ m' h' tk', Fr h₀ L h' m' → Q (.ret (.bool true)) { s with heap := h', toks := tk' }) :
    wpG (model PySem.Challenge.rw_nq0008_01.row.prog w) (callerA.deeper (envOfC (Str.ofString "law") lawScope L fa cd)) (execs lawStmts (envOfC (Str.ofString "law") lawScope L fa cd)) Q (fun _ _ => False) s := by
  revert X; k_fill; intro X
  generalize hsc : lawScope = sc at *
  conv at hsc => lhs; whnf
  subst hsc
  conv in lawStmts => whnf
  refine wpG_execs_any ?_
  k_steps
  refine wpG_execs_any ?_
  k_steps
  refine wpG_execs_any ?_
  k_steps
  rename_i D₁ ws₁ h₁ hI₁ hC₁ hL₁ l₁ l₂ h₂ l₂' D₃ ws₃ h₃ hI₃ l₃ h₄ h₅ tk₅ t₅ h₆ o₆ d₆ hlo hhi h₇ o₇ F₇ N₇ d₇
  obtain ⟨wd, hwd⟩ : ∃ wd : Nat, wd = (1 + (List.take 4 ns ++ [-1, 0, 2, -2]).sum.fmod 3).toNat := ⟨_, rfl⟩
  have hwz : 1 + (List.take 4 ns ++ [-1, 0, 2, -2]).sum.fmod 3 = (wd : Int) := by omega
  have hw1 : 1 ≤ wd := by omega
  have hw3 : wd ≤ 3 := by omega
  rw [hwz] at d₆ d₇
  rw [show ((wd : Int)).toNat = wd by omega] at d₇
  have hlen : (List.take 4 ns ++ [-1, 0, 2, -2]).length = min 4 ns.length + 4 := by rw [List.length_append, hC₁]; rfl
  show wpG _ _ _ _ _ _
  refine st4 (Dk := D₃) (ws := ws₃) (wd := wd) (m := fun y => if y = Str.ofString "script" then some (.ref l) else none) B F₇ X T (cb_drop N₇ fun q hq => by
    rcases List.mem_cons.mp hq with rfl | hq
    · exact .head _
    · exact .tail _ (.tail _ (.tail _ hq))) d₆ d₇ d3 hI₃ hw1 hw3 (Int.fdiv_eq_ediv_of_nonneg _ (by decide)) (by omega) (by omega) l₃.2.2 ?_
  intro Dd ys ds o3' h tk F₈ N₈ d3' hId hW hl1 hl2 hne
  refine st5 B F₈ X T N₈ d₆ d3' hId hw1 hw3 hl1 hl2 ?_
  intro tl h tk F₉ N₉
  refine st6 B F₉ X T N₉ d₆ d3' hId hw1 hw3 hl1 hl2 ?_
  intro th h tk F₁₀ N₁₀
  refine st7 B F₁₀ X T N₁₀ d₆ d3' hId hw1 hw3 hl1 hl2 track_size ?_
  intro h tk F₁₁ N₁₁
  refine st8 B F₁₁ X T N₁₁ d₆ d3' hId hw1 hw3 hl1 hl2 track_size ?_
  intro h tk F₁₂ N₁₂
  refine st9 B F₁₂ X T N₁₂ d₆ d3' hId hw1 hw3 hl1 hl2 d4 hne ?_
  intro Dt lt o4' h tk F₁₃ N₁₃ d4' henc
  refine st10 B F₁₃ X T N₁₃ d₆ d3' hId hw1 hw3 hl1 hl2 ?_
  intro De zs tups h tk F₁₄ N₁₄ hP
  refine st11 B F₁₄ X T N₁₄ d₆ d3' hId hw1 hw3 hl1 hl2 d4' henc hW ?_
  intro h tk F₁₅ N₁₅
  refine st12 B F₁₅ X T N₁₅ d₆ d3' hId hw1 hw3 hl1 hl2 d4' henc hW hP ?_
  intro h tk F₁₆
  exact ret _ _ _ F₁₆
end Mine
end

/-! ## Law -/
section
open PySem PySem.W PyProof.Rows PySem.Calls PyProof.V PySem.Spec
set_option maxRecDepth 100000
set_option maxHeartbeats 8000000
namespace Mine
theorem law_ok : PySem.Challenge.rw_nq0008_01.Holds := by
  refine Mine.hd ?_
  w_on
  k_fill
  intro w s₀ s₁ mg mb G Y fa o pm cd doc dV kV ho hd hcd hD hmg hg args vals as hpre hlay hrd hwl hlo
  have KX := kIn_of Y
  refine Ground.open G ?_
  intro T B D TE TW
  try (refine guard_noD D (by decide +kernel) ?_; clear D)
  obtain ⟨_, _, M⟩ := bmod_of_top T
  clear hmg
  wrow_args hpre hlay hrd hwl hlo
  have good : ∀ h' tk', (∀ b o, s₁.heap.get? b = some o → h'.get? b = some o) → GoodWG PySem.Challenge.rw_nq0008_01.row.claim (classAt s₀.heap) (ExcName.means s₀.heap) [ofPy (PyData.list (List.map PyData.int ‹List Int›))] s₁ (.ok (.ret (.bool true))) { s₁ with heap := h', toks := tk' } := by
    intro h' tk' hk
    exact GoodW.toG ⟨.inl ⟨_, .bool true, [], rfl, raisesW_false (by wrow_none_raised), .bool true, postW_of (by wrow_shape) (by wtm_val) rfl, unshared_nil⟩, hk, rfl, hg⟩
  refine ⟨good s₁.heap s₁.toks (fun _ _ e => e), ?_⟩
  refine enterG_call ?_
  have K0 := below_caller (Top.heap T)
  have he := Dflts.none hD rfl; subst he; have he := Dflts.noKw hD; subst he
  refine callG_cellsN (by decide) ho (fd_plain hd) (Top.nolimit T) hcd rfl (kinds_of (by kinds_ok)) (by decide) fun h₁ tk₁ cells F N0 X0 => ?_
  clear hd hcd hD Y G
  cells_open X0
  rename_i x1 x2 x3 x4 c4 c3 c2 c1
  have hN : News s₁.heap s₁.heap.objs.size h₁ [(s₁.heap.objs.size + 1, x4), (s₁.heap.objs.size + 1 + 1, x3), (s₁.heap.objs.size + 1 + 1 + 1, x2), (s₁.heap.objs.size + 1 + 1 + 1 + 1, x1)] := cb_drop N0 fun q hq => by
    simp only [List.mem_cons, List.not_mem_nil, or_false] at hq ⊢
    rcases hq with e | e | e | e <;> simp [e]
  refine body_ok (ns := ‹List Int›) (s := { s₁ with heap := h₁, toks := tk₁ }) (below_caller s₁.heap) KX T (by assumption) (by assumption) (by assumption) F hN c1 c2 c3 c4 ?_
  intro m' h' tk' F'
  exact good h' tk' F'.keep
end Mine
end

set_option maxRecDepth 100000 in
set_option maxHeartbeats 8000000 in
theorem PySem.Challenge.cw_nq0008_01_holds : PySem.Challenge.rw_nq0008_01.Holds :=
  Mine.law_ok
