import PyProof.Rows.All
import Wide.All
import OpenK.AllK
import Wide.FinOn
import PySem.Challenge.RW_zn0021_01
open PySem PySem.W PyProof.Rows
set_option Elab.async false
set_option maxRecDepth 100000
set_option maxHeartbeats 8000000
set_option compiler.extract_closed false
namespace Mine
/-! what holds in the contexts whose stack bears no decoder -/
def ndIds : List String := ["bytearray.__contains__", "bytearray.__mod__", "bytearray.__rmod__", "_struct.pack_into.held", "bytearray.find.held"] ++ Builtin.Bytes.decodersThatHold
def nd : Code → Bool
  | .builtin id _ => !ndIds.contains id
  | _ => true
def ND (l : List (Code × Pos)) : Prop := ∀ x ∈ l, nd x.1 = true
def wpN {α : Type} (M : Model) (A : Around) (t : Sem α) (Q : α → Shared → Prop) (E : Value → Shared → Prop) (s : Shared) : Prop :=
  ∀ Γ p, Γ.In A → nd Γ.code = true → ND Γ.below → Sem.wp M Γ t (fun a _ s' => Q a s') (fun e _ s' => E e s') p s
def codeN (M : Model) (A : Around) (c : Code) (R : Result → Shared → Prop) (s : Shared) : Prop :=
  ∀ Γ p, Γ.code = c → Γ.Below A → ND Γ.below → wpCode M Γ R p s
section
variable {α β : Type} {M : Model} {A : Around} {E : Value → Shared → Prop} {s : Shared}
theorem wpN_of {t : Sem α} {Q : α → Shared → Prop} (h : wpAny M A t Q E s) : wpN M A t Q E s := fun Γ p hΓ _ _ => h Γ p hΓ
theorem codeN_of {c : Code} {R : Result → Shared → Prop} (h : codeAny M A c R s) : codeN M A c R s := fun Γ p hc hΓ _ => h Γ p hc hΓ
theorem wpN_pure {a : α} {Q : α → Shared → Prop} (h : Q a s) : wpN M A (pure a) Q E s := wpN_of (wpAny_pure h)
theorem wpN_mono {t : Sem α} {Q Q' : α → Shared → Prop} {E' : Value → Shared → Prop} (h : wpN M A t Q E s) (hQ : ∀ a s, Q a s → Q' a s) (hE : ∀ e s, E e s → E' e s) : wpN M A t Q' E' s :=
  fun Γ p hΓ h1 h2 => Sem.wp_mono M Γ t (fun a _ s => hQ a s) (fun e _ s => hE e s) p s (h Γ p hΓ h1 h2)
theorem wpN_bind {m : Sem α} {f : α → Sem β} {Q : β → Shared → Prop} (h : wpN M A m (fun a s' => wpN M A (f a) Q E s') E s) : wpN M A (m >>= f) Q E s := fun Γ p hΓ h1 h2 => by
  rw [Sem.wp_bind']
  exact Sem.wp_mono M Γ m (fun a p' s' h' => h' Γ p' hΓ h1 h2) (fun _ _ _ h' => h') p s (h Γ p hΓ h1 h2)
/-- the first part by the library's rules -/
theorem wpN_mix {m : Sem α} {f : α → Sem β} {Q : β → Shared → Prop} (h : wpAny M A m (fun a s' => wpN M A (f a) Q E s') E s) : wpN M A (m >>= f) Q E s := wpN_bind (wpN_of h)
theorem wpN_holding {vs : List Value} {m : Sem α} {Q : α → Shared → Prop} (h : wpN M A m Q E s) : wpN M A (holding vs m) Q E s := fun Γ p hΓ h1 h2 => by rw [Sem.wp_holding]; exact h Γ p hΓ h1 h2
theorem wpN_keep {vs : List Value} {m : Sem α} {Q : α → Shared → Prop} (h : wpN M A m Q E s) : wpN M A (m.keep vs) Q E s := fun Γ p hΓ h1 h2 => by rw [Sem.wp_keep]; exact h Γ p hΓ h1 h2
theorem wpN_onRaise {m : Sem α} {k : Value → Sem Unit} {Q : α → Shared → Prop} (h : wpN M A m Q (fun e s' => wpN M A (k e) (fun _ s'' => E e s'') E s') s) : wpN M A (m.onRaise k) Q E s := fun Γ p hΓ h1 h2 => by
  rw [Sem.wp_onRaise]
  exact Sem.wp_mono M Γ m (fun _ _ _ h' => h') (fun e p' s' h' => h' Γ p' hΓ h1 h2) p s (h Γ p hΓ h1 h2)
theorem wpN_runValue {c : Code} {Q : Value → Shared → Prop} (hc : codeN M A c (fun r s' => match r with | .ok (.ret v) => Q v s' | .ok _ => False | .error e => E e s') s) : wpN M A (runValue c) Q E s := fun Γ p hΓ h1 h2 => by
  rw [Sem.wp_runValue]
  refine hc _ p rfl (hΓ.enter c none p (by intro x; cases x)) ?_
  intro x hx
  rcases List.mem_cons.mp hx with rfl | hx
  · exact h1
  · exact h2 x hx
theorem wpN_call {f : Value} {pos : List Value} {kw : List (Str × Value)} {Q : Value → Shared → Prop} (hc : codeN M A (.call f ⟨pos, kw⟩) (fun r s' => match r with | .ok (.ret v) => Q v s' | .ok _ => False | .error e => E e s') s) :
    wpN M A (call f pos kw) Q E s := wpN_runValue hc
theorem codeN_of_tree {c : Code} {R : Result → Shared → Prop} (hn : nd c = true)
    (h : wpN M (A.under c) (M.den c) (fun fin s' => match fin with | .done f => R (.ok f) s' | .again c' => c'.quiet = true ∧ codeN M A c' R s') (fun e s' => R (.error e) s') s) : codeN M A c R s := fun Γ p hc hΓ h2 => by
  rw [wpCode_iff_wp, hc]
  refine Sem.wp_mono M Γ _ (fun fin p' s' h' => ?_) (fun _ _ _ h' => h') p s (h Γ p (hc ▸ hΓ.in) (hc ▸ hn) h2)
  cases fin with
  | done f => exact h'
  | again c' => exact ⟨h'.1, h'.2 (Γ.goto c') p' rfl (hΓ.goto c') h2⟩
theorem codeN_mono {c : Code} {R R' : Result → Shared → Prop} (h : codeN M A c R s) (hR : ∀ r s, R r s → R' r s) : codeN M A c R' s := fun Γ p hc hΓ h2 => wpCode_mono hR (h Γ p hc hΓ h2)
def RestN (M : Model) (A : Around) (rest : List Stmt) (env : Env) (Q : Flow → Shared → Prop) (E : Value → Shared → Prop) (fl : Flow) (s' : Shared) : Prop := fl = .next ∧ wpN M A (execs rest env) Q E s'
theorem wpN_execs_cons {st : Stmt} {rest : List Stmt} {env : Env} {Q : Flow → Shared → Prop} (h : wpN M A (exec st env) (RestN M A rest env Q E) E s) : wpN M A (execs (st :: rest) env) Q E s := by
  show wpN M A (exec st env >>= fun fl => match fl with | .next => execs rest env | f => pure f) Q E s
  refine wpN_bind (wpN_mono h (fun fl s' h' => ?_) fun _ _ x => x)
  obtain ⟨rfl, h'⟩ := h'
  exact h'
theorem wp_execs_app {Γ : Ctx} (hΓ : Γ.In A) (h1 : nd Γ.code = true) (h2 : ND Γ.below) {env : Env} {Q : Flow → Shared → Prop} {post : List Stmt} : ∀ {pre : List Stmt} {p : Pos} {s : Shared},
    Sem.wp M Γ (execs pre env) (fun fl _ s' => fl = .next ∧ wpN M A (execs post env) Q E s') (fun e _ s' => E e s') p s → Sem.wp M Γ (execs (pre ++ post) env) (fun a _ s' => Q a s') (fun e _ s' => E e s') p s
  | [], p, s, h => by
    have h' : Sem.wp M Γ (pure Flow.next) (fun fl _ s' => fl = .next ∧ wpN M A (execs post env) Q E s') (fun e _ s' => E e s') p s := h
    rw [Sem.wp_pure'] at h'
    exact h'.2 Γ p hΓ h1 h2
  | st :: pre, p, s, h => by
    change Sem.wp M Γ (exec st env >>= fun fl => match fl with | .next => execs pre env | f => pure f) _ _ p s at h
    show Sem.wp M Γ (exec st env >>= fun fl => match fl with | .next => execs (pre ++ post) env | f => pure f) _ _ p s
    rw [Sem.wp_bind'] at h ⊢
    refine Sem.wp_mono M Γ _ (fun fl p' s' h' => ?_) (fun _ _ _ x => x) p s h
    cases fl with
    | next => exact wp_execs_app hΓ h1 h2 h'
    | ret v => have h3 : Flow.ret v = .next ∧ _ := h'; cases h3.1
    | brk => have h3 : Flow.brk = .next ∧ _ := h'; cases h3.1
    | cont => have h3 : Flow.cont = .next ∧ _ := h'; cases h3.1
/-- some statements by the library's rules, the others behind them -/
theorem wpN_execs_app {env : Env} {Q : Flow → Shared → Prop} {pre post : List Stmt} (h : wpAny M A (execs pre env) (RestN M A post env Q E) E s) : wpN M A (execs (pre ++ post) env) Q E s :=
  fun Γ p hΓ h1 h2 => wp_execs_app hΓ h1 h2 (h Γ p hΓ)
end
section
variable {prog : Program} {w : World} {A : Around} {E : Value → Shared → Prop} {s : Shared} {R : Result → Shared → Prop}
theorem codeN_func {body env} (h : wpN (model prog w) (A.deeper env) (execs body env) (fun f s' => R (.ok (.ret (match f with | .ret v => v | _ => .none))) s')
      (fun e s' => wpAny (model prog w) (A.deeper env) (leaving env e) (fun _ s'' => R (.error e) s'') (fun e' s'' => R (.error e') s'') s') s) : codeN (model prog w) A (.func body env) R s := by
  refine codeN_of_tree rfl ?_
  show wpN _ (A.deeper env) (do point; match ← (execs body env).onRaise (leaving env) with | .ret v => ret v | _ => ret .none) _ _ s
  refine wpN_mix (wpAny_point (wpN_bind (wpN_onRaise (wpN_mono h (fun f s' h' => ?_) fun _ _ h' => wpN_of h'))))
  cases f <;> exact wpN_pure h'
theorem codeN_call_function {a : Addr} {args : Args} {o : Obj} {fd : FuncData} {body : List Stmt} (hroom : A.depth < recursionLimit) (ho : s.heap.get? a = some o)
    (hd' : o.data = .func fd) (hco : fd.scope.isCoroutine = false) (hgen : fd.scope.isGenerator = false) (hbody : fd.body = .stmts body) (hcd : s.heap.CodeRec fd.code fd.qualname)
    (h : wpAny (model prog w) A.in1 (bindArgs fd args) (fun binds s₁ =>
      wpAny (model prog w) A.in1 (newFunctionEnv fd.scope fd.globals fd.closure binds (fd.qualname ++ ".<locals>.") (some a) fd.code none fd.builtins)
        (fun env s₂ => s₂.heap.NoLimit ∧ codeN (model prog w) A (.func body env) R s₂) (fun e s' => R (.error e) s') s₁) (fun e s' => R (.error e) s') s) :
    codeN (model prog w) A (.call (.ref a) args) R s := by
  refine codeN_of_tree rfl (wpN_of ?_)
  show wpAny _ A.in1 (callAny (.ref a) args) _ _ s
  unfold callAny
  refine wpAny_bind (wpAny_load ho ?_)
  obtain ⟨c, oc, vs, tq, hc, hoc, hdc, hq⟩ := hcd
  rw [hd']
  show wpAny _ A.in1 (callFunction a fd args) _ _ s
  unfold callFunction
  rw [hc] at h
  rw [hc, hbody, hco, hgen]
  refine wpAny_bind (m := field (.ref c) 1) (wpAny_field hoc hdc hq (wpAny_bind (wpAny_pure ?_)))
  exact wpAny_bind (wpAny_mono h (fun binds s₁ h₁ => wpAny_bind (wpAny_mono h₁ (fun env s₂ h₂ => wpAny_bind (wpAny_enterFrame h₂.1 hroom (wpAny_pure ⟨rfl, h₂.2⟩))) fun _ _ h' => h')) fun _ _ h' => h')
end
/-! the head: a guarded tree, good where the stack bears no decoder -/
def ndAll (st : List (Code × Pos)) : Bool := st.all fun x => nd x.1
theorem ndAll_iff {c : Code} {p : Pos} {l : List (Code × Pos)} : ndAll ((c, p) :: l) = true ↔ nd c = true ∧ ND l := by
  unfold ndAll ND
  rw [List.all_cons, Bool.and_eq_true, List.all_eq_true]
theorem wp_stackBind {α : Type} {M : Model} {Γ : Ctx} {k : List (Code × Pos) → Sem α} {Q : α → Pos → Shared → Prop} {E : Value → Pos → Shared → Prop} {p : Pos} {s : Shared} :
    Sem.wp M Γ (stack >>= k) Q E p s = Sem.wp M Γ (k ((Γ.code, p) :: Γ.below)) Q E p s := by
  show Sem.wp M Γ (Sem.bind stack k) _ _ p s = _
  unfold stack
  rw [Sem.wp_bind, Sem.wp_stack]
  rfl
def runN (f : Value) (vs : List Value) : Sem Value := stack >>= fun st => if ndAll st = true then PySem.call f vs else pure (.bool true)
def treeC (name : Str) (vs : List Value) : Sem Fin := do
  match ← nsGet mainNs name with
  | some f => do ret (← PySem.call f vs)
  | none => unsupported "claim.caller:no-such-global"
def treeG (name : Str) (vs : List Value) : Sem Fin := stack >>= fun st => if ndAll st = true then treeC name vs else ret (.bool true)
theorem guard_in {M : Model} {A : Around} {f : Value} {vs : List Value} {Q : Value → Shared → Prop} {E : Value → Shared → Prop} {s : Shared} (h : wpN M A (PySem.call f vs) Q E s) (hb : Q (.bool true) s) : wpAny M A (runN f vs) Q E s := fun Γ p hΓ => by
  unfold runN
  rw [wp_stackBind]
  by_cases hg : ndAll ((Γ.code, p) :: Γ.below) = true
  · rw [if_pos hg]
    obtain ⟨h1, h2⟩ := ndAll_iff.mp hg
    exact h Γ p hΓ h1 h2
  · rw [if_neg hg]
    rw [Sem.wp_pure']; exact hb
theorem guard_out {prog : Program} {w : World} {s : Shared} {name : Str} {mg : Str → Option Value} {f : Value} {vs : List Value} {Q : Fin → Shared → Prop} {E : Value → Shared → Prop} (hg : s.heap.Ns mainGlobals mg) (hf : mg name = some f)
    (h : wpAny (model prog w) callerA (runN f vs) (fun v s' => Q (.done (.ret v)) s') E s) : wpAny (model prog w) callerA (treeG name vs) Q E s := by
  have hN : wpN (model prog w) callerA (PySem.call f vs) (fun v s' => Q (.done (.ret v)) s') E s := fun Γ p hΓ h1 h2 => by
    have h3 := h Γ p hΓ
    unfold runN at h3
    rw [wp_stackBind, if_pos (ndAll_iff.mpr ⟨h1, h2⟩)] at h3
    exact h3
  intro Γ p hΓ
  unfold treeG
  rw [wp_stackBind]
  by_cases hgd : ndAll ((Γ.code, p) :: Γ.below) = true
  · rw [if_pos hgd]
    obtain ⟨h1, h2⟩ := ndAll_iff.mp hgd
    refine (wpN_mix (wpAny_nsGet hg ?_) : wpN (model prog w) callerA (treeC name vs) Q E s) Γ p hΓ h1 h2
    rw [hf]
    exact wpN_bind (wpN_mono hN (fun _ _ x => wpN_pure x) fun _ _ x => x)
  · rw [if_neg hgd]
    have h3 := h Γ p hΓ
    unfold runN at h3
    rw [wp_stackBind, if_neg hgd, Sem.wp_pure'] at h3
    show Sem.wp _ Γ (pure _) _ _ p s
    rw [Sem.wp_pure']; exact h3
abbrev callerT (t : Sem Fin) : Thread := ⟨t, .builtin "claim.caller" {}, default, []⟩
theorem sched_guard {prog : Program} {w : World} {s : Shared} {name : Str} {vs : List Value} {n : Nat} {o : Outcome} {s' : Shared} (hr : s.asleep) (h : schedN (denote table) prog w n (.single s (callerT (treeG name vs))) = .halted o s') :
    ∃ m, schedN (denote table) prog w m (.single s (callerT (treeC name vs))) = .halted o s' := by
  cases n with
  | zero => cases h
  | succ n =>
    refine ⟨n, ?_⟩
    have hst : step (denote table) prog w s (callerT (treeG name vs)) = .go s (callerT (treeC name vs)) := rfl
    rcases sstep_single (denote table) prog w s (callerT (treeG name vs)) rfl hr with e | e
    · rw [hst] at e
      rw [schedN, e] at h
      exact h
    · rw [hst] at e; cases e
theorem asleep_top {p : Program} {w : World} {s₀ s₁ : Shared} (h : TopRan p w s₀ s₁) : s₁.asleep ↔ s₀.asleep := by
  unfold Shared.asleep
  rw [h.2.1]
theorem callFrom_guard {c : ClaimW} {w : World} {free : Addr → Prop} {gens : Prop} {kept : Heap → Prop} {s : Shared} {name : Str} (hz : s.asleep)
    (h : c.CallFrom (fun vs => callerT (treeG name vs)) w free gens kept s) : c.CallFrom (fun vs => callerT (treeC name vs)) w free gens kept s := by
  intro args hpre hlay ord hord
  obtain ⟨vs, s₁, hlaid, n, o, s', hrun, rest⟩ := h args hpre hlay ord hord
  have hal := layAllW_rest _ _ _ hlaid
  obtain ⟨m, hm⟩ := sched_guard (Shared.asleep_of_life hal.2.2.2 hz) hrun
  exact ⟨vs, s₁, hlaid, m, o, s', hm, rest⟩
abbrev WalkNd (q : Program) (loose : List Str) (XP : (Str → Option Value) → Heap → Prop) (YP : World → Heap → Prop) (r : RowW) (d : DefRec) (kwd : List (Str × Expr)) : Prop :=
  ∀ (w : World) (s₀ s₁ : Shared) (mg mb : Str → Option Value), Ground q loose r.records XP w s₀ mg mb s₁.heap → YP w s₁.heap → ∀ (a : Addr) (o : Obj) (pm cd doc dV kV : Value), s₁.heap.get? a = some o →
    o.data = .func { Calls.docDef d.name d.params d.body d.scope pm cd doc with defaults := dV, kwdefaults := kV } → s₁.heap.CodeRec cd d.name → Dflts mg s₁.heap d.params kwd dV kV → mg d.name = some (.ref a) → s₁.gens = #[] →
    ∀ (args : List WData) (vals : List Value) (as : List Addr), r.claim.pre args = true → WData.layableAll args = true → ReadsAllW r.records (classAt s₀.heap) s₁.heap vals args as → WellAll w.params s₁.heap vals args → (∀ a ∈ as, (a == sysModules) = false) →
      wpN (model r.prog w) callerA (PySem.call (.ref a) vals) (fun v s' => GoodWG r.claim (classAt s₀.heap) (ExcName.means s₀.heap) args s₁ (.ok (.ret v)) s')
        (fun e s' => GoodWG r.claim (classAt s₀.heap) (ExcName.means s₀.heap) args s₁ (.error e) s') s₁
def TrueOk (r : RowW) : Prop := ∀ (cl : Str → Option Addr) (mean : ExcName → Option Value) (args : List WData) (s₁ : Shared), r.claim.pre args = true → s₁.gens = #[] → GoodWG r.claim cl mean args s₁ (.ok (.ret (.bool true))) s₁
theorem trueOk : TrueOk PySem.Challenge.rw_zn0021_01.row.toRowW := by
  intro cl mean args s₁ hpre hg
  refine ⟨.inl ⟨.bool true, .bool true, [], rfl, fun _ => rfl, ?_, ?_, fun _ => ⟨List.nodup_nil, fun _ h => by cases h⟩⟩, .of_keep fun _ _ e => e, rfl, .of_eq hg⟩
  · constructor
  · exact postW_of rfl (w_eq_bool (w_res rfl) w_lit) rfl
theorem law_said : PySem.Challenge.rw_zn0021_01.wellSaid = true := by decide +kernel
/-- the same statement under a name of its own: the head then goes by one check and not by pieces -/
abbrev LeftQ (p q : Program) (loose : List Str) (Xt : Shared → Bool) {α : Type} (Yf : Shared → α) (Ya : World → α) (N : Nat) : Prop := LeftO p q loose Xt Yf Ya N
theorem PySem.W.holds_open {r : OpenRow} {q : Program} {loose : List Str} {Xt : Shared → Bool} {XP : (Str → Option Value) → Heap → Prop} {α : Type} {Yf : Shared → α} {Ya : World → α} {YP : World → Heap → Prop} {d : DefRec} {kwd : List (Str × Expr)} {N : Nat}
    (left : LeftQ r.prog q loose Xt Yf Ya N) (hY : ∀ w s, Yf s = Ya w → YP w s.heap) (hYk : ∀ w h h', YP w h → (∀ b o, h.get? b = some o → h'.get? b = some o) → YP w h')
    (hX : ∀ s, Xt s = true → XP (s.heap.nsMap mainGlobals) s.heap) (hXk : ∀ mg h h', XP mg h → (∀ b o, h.get? b = some o → h'.get? b = some o) → XP mg h')
    (hdef : defOf q r.name = some (d, kwd)) (hp : r.prog.theDef r.name = some (d.params, d.body, d.scope)) (hk : kwWritten? d.params.kwonlyargs d.params.kw_defaults = some kwd) (hRf : ∀ s, Xt s = true → RecFacts r.records s.heap) (hwr : (!r.writes || r.records.isEmpty) = true)
    (_k : True) (ok : (chainsOk q && opensWell r.prog && (frees r.toRowW && r.within.isEmpty)) = true) (hb : r.prog.bare) (hw : r.toRowW.promised)
    (call : WalkNd q loose XP YP r.toRowW d kwd) (hT : TrueOk r.toRowW := by exact trueOk) (k1 : r.wellSaid = true := by exact row_said law_said) : r.Holds := by
  have hch : chainsOk q = true := (Bool.and_eq_true_iff.mp (Bool.and_eq_true_iff.mp ok).1).1
  have H := open_anyG (r := r.toRowW) (defs := if r.pinned then [r.name] else []) (kps := r.keeps) (writes := r.writes) (run := fun f vs => runN f vs) (tree := fun vs => treeG r.name vs) left hY hYk hX hXk hRf hwr ok hb hw
    (fun vs w s mg f Q E hg hf h => guard_out hg hf h)
    (fun w s hg G n hn => by
      obtain rfl : n = r.name := by split at hn <;> simp_all
      exact pinned_of_view hg G hdef hp hk)
    (fun w s₀ s₁ mg mb G Y args vs as hpre hlay L low => by
      obtain ⟨a, o, pm, cd, doc, dV, kV, h1, h2, h3, h4, h5⟩ := G.fn hdef
      exact ⟨.ref a, h1, guard_in (call w s₀ s₁ mg mb G Y a o pm cd doc dV kV h2 h3 h4 h5 (defOf_name hdef ▸ h1) L.gens args vs as hpre hlay L.reads L.well (L.low low)) (hT _ _ _ _ hpre L.gens)⟩)
  refine ⟨k1, hw, H.1, H.2.1, fun w => ⟨(H.2.2 w).1, fun s hs => ?_⟩⟩
  obtain ⟨s₀, hf, hg0, s₁, hTop, h1, h2, h3, hcall⟩ := (H.2.2 w).2 s hs
  obtain ⟨s₀', hf', _, s₁', hTop', hz, _⟩ := (LeftO.behind left hX hch w).2 s hs
  have e : s₀' = s₀ := Option.some.inj (hf'.symm.trans hf)
  subst e
  have hz₁ : s₁.asleep := (asleep_top hTop).mpr ((asleep_top hTop').mp hz)
  exact ⟨s₀', hf, hg0, s₁, hTop, h1, h2, h3, callFrom_guard hz₁ hcall⟩
open_top hd for PySem.Challenge.rw_zn0021_01.row
theorem fill_on : ∀ p : Params, hd.heap_1 p = hd.heap_1 p ∧ PySem.Challenge.rw_zn0021_01 = PySem.Challenge.rw_zn0021_01 := by
  w_top off
  k_fill
  exact fun _ => ⟨rfl, rfl⟩
noncomputable abbrev LZ : List Str := looseW hd.view_1 [Str.ofString "bisect_right", Str.ofString "insort_left", Str.ofString "bisect_left"] ++ List.map (fun x => x.name) (recsOf hd.view_1) ++ List.map (fun x => x.1) (litsOf hd.view_1) ++ List.map (fun x => x.name) (clssOf hd.view_1 (looseW hd.view_1 [Str.ofString "bisect_right", Str.ofString "insort_left", Str.ofString "bisect_left"]))
noncomputable abbrev KF (w : World) : Frag := hd.heap_1 w.params
abbrev PG : Program := PySem.Challenge.pw_zn0021_01
abbrev CL (w : World) (mean : ExcName → Option Value) (mg mb : Str → Option Value) (k : Nat) (f : Addr) (news : List (Addr × Obj)) (pre : Prop) (vs : List Value) (Ret : Heap → Addr → (Str → Option Value) → Shared → (Value → Shared → Prop) → Prop) : Prop :=
  ∀ (dp un : Nat) (gd : Option (List Code)) (cn : Str) (cs : Scope) (a : Addr) (ccd : Value) (cl : List (Str × Addr)) (outer : List Env) (A₀ : Around) (base h₀ : Heap) (L : Addr) (m : Str → Option Value) (s : Shared) (Q E : Value → Shared → Prop),
    Below A₀ base outer h₀ → Fr h₀ L s.heap m → (hd.heap_1 w.params).In h₀ → News h₀ L s.heap news → Top topProg LZ mean mg mb h₀ → cs.kind = .function →
    pre → dp + k < recursionLimit → un + 8 * k < cLine → Ret h₀ L m s Q →
      wpAny (model PySem.Challenge.pw_zn0021_01 w) (ktrTop dp un gd cn cs L a ccd cl outer) (call (.ref f) vs) Q E s
abbrev RetV (news : List (Addr × Obj)) (v : Tok → Value) : Heap → Addr → (Str → Option Value) → Shared → (Value → Shared → Prop) → Prop :=
  fun h₀ L m s Q => ∀ t h' tk', Fr h₀ L h' m → News h₀ L h' news → Q (v t) { s with heap := h', toks := tk' }
theorem gen_tk {α : Type} {M : Model} {A : Around} {t : Sem α} {Q : α → Shared → Prop} {E : Value → Shared → Prop} {h : Heap} {g : Array GenState} {d : Drawn} {a : Nat} {o : OsState}
  (H : ∀ tk, 0 < tk → wpAny M A t Q E ⟨h, g, d, tk, o⟩) : wpAny M A t Q E ⟨h, g, d, a + 1, o⟩ := H (a + 1) (Nat.succ_pos _)
/-! the marks -/
abbrev Mk := Fin 3
noncomputable def cd (m : Mk) : Nat := if m.val = 0 then 34 else if m.val = 1 then 60 else 62
noncomputable def eC (m : Mk) : List Nat := if m.val = 0 then [38, 113, 117, 111, 116, 59] else if m.val = 1 then [38, 108, 116, 59] else [38, 103, 116, 59]
noncomputable def sO (l : List Mk) : Str := ⟨(l.map cd).toArray⟩
noncomputable def eS (l : List Mk) : Str := ⟨(l.flatMap eC).toArray⟩
theorem sO_len (l : List Mk) : (sO l).length = l.length := by simp [sO, Str.length]
theorem sO_cps (l : List Mk) : (sO l).cps.toList = l.map cd := by simp [sO]
noncomputable def rep (c : Nat) (z l : List Nat) : List Nat := l.flatMap fun k => if k = c then z else [k]
theorem rep_free (c : Nat) (z : List Nat) : ∀ l : List Nat, c ∉ l → rep c z l = l
  | [], _ => rfl
  | k :: r, h => by
    have h1 : ¬ k = c := fun e => h (e ▸ List.mem_cons_self ..)
    have ih := rep_free c z r fun m => h (List.mem_cons_of_mem _ m)
    simp only [rep, List.flatMap_cons, if_neg h1] at ih ⊢
    rw [ih]; rfl
theorem rep_append (c : Nat) (z a b : List Nat) : rep c z (a ++ b) = rep c z a ++ rep c z b := by simp [rep]
theorem rep_one (c : Nat) (z : List Nat) : rep c z [c] = z := by simp [rep]
theorem rep_join (c : Nat) (z : Str) : ∀ parts : List Str, (∀ p ∈ parts, c ∉ p.cps.toList) → rep c z.cps.toList (Str.join ⟨#[c]⟩ parts).cps.toList = (Str.join z parts).cps.toList
  | [], _ => rfl
  | [p], h => rep_free c _ _ (h p (List.mem_singleton.mpr rfl))
  | p :: q :: r, h => by
    have ih := rep_join c z (q :: r) fun a ha => h a (List.mem_cons_of_mem _ ha)
    show rep c z.cps.toList (p ++ ⟨#[c]⟩ ++ Str.join ⟨#[c]⟩ (q :: r)).cps.toList = (p ++ z ++ Str.join z (q :: r)).cps.toList
    simp only [Str.cps_append, Array.toList_append]
    rw [rep_append, rep_append, ih, rep_free c _ _ (h p (List.mem_cons_self ..))]
    show p.cps.toList ++ rep c _ [c] ++ _ = _
    rw [rep_one]
theorem replace_rep (x z : Str) (c : Nat) : Txt.replace x ⟨#[c]⟩ z = ⟨(rep c z.cps.toList x.cps.toList).toArray⟩ := by
  have h : (Txt.replace x ⟨#[c]⟩ z).cps.toList = rep c z.cps.toList x.cps.toList := by
    rw [StrLaws.replace_one, ← rep_join c z _ (StrLaws.split_free x c), StrLaws.join_split]
  generalize Txt.replace x ⟨#[c]⟩ z = r at h
  obtain ⟨⟨l⟩⟩ := r
  have e : l = _ := h
  rw [e]
theorem replace_none {x z : Str} {c : Nat} (h : c ∉ x.cps.toList) : Txt.replace x ⟨#[c]⟩ z = x := by
  rw [replace_rep, rep_free _ _ _ h]
/-- the seven replacements, one after the other -/
noncomputable def chain7 (l : List Nat) : List Nat :=
  rep 9 [38, 35, 48, 57, 59] (rep 10 [38, 35, 49, 48, 59] (rep 13 [38, 35, 49, 51, 59] (rep 34 [38, 113, 117, 111, 116, 59] (rep 62 [38, 103, 116, 59] (rep 60 [38, 108, 116, 59] (rep 38 [38, 97, 109, 112, 59] l))))))
theorem chain7_append (a b : List Nat) : chain7 (a ++ b) = chain7 a ++ chain7 b := by simp only [chain7, rep_append]
theorem chain7_marks : ∀ l : List Mk, chain7 (l.map cd) = l.flatMap eC
  | [] => rfl
  | m :: r => by
    have h1 : chain7 [cd m] = eC m := by revert m; decide
    rw [List.map_cons, List.flatMap_cons, ← chain7_marks r, ← h1, ← chain7_append]; rfl
theorem rep_len (c : Nat) (z : List Nat) (k : Nat) (hk : 1 ≤ k) (hz : z.length ≤ k) : ∀ l : List Nat, (rep c z l).length ≤ k * l.length
  | [] => by simp [rep]
  | a :: r => by
    have ih := rep_len c z k hk hz r
    have e : rep c z (a :: r) = (if a = c then z else [a]) ++ rep c z r := by simp [rep]
    rw [e, List.length_append, List.length_cons, Nat.mul_succ]
    by_cases h : a = c
    · rw [if_pos h]; omega
    · rw [if_neg h]; simp only [List.length_singleton]; omega
theorem replace_len {x c z : Str} {c1 k n : Nat} (hc : c = ⟨#[c1]⟩) (hk : 1 ≤ k) (hz : z.length ≤ k) (hx : x.length ≤ n) : (Txt.replace x c z).length ≤ k * n := by
  subst hc
  rw [replace_rep]
  have h := rep_len c1 z.cps.toList k hk (by simpa [Str.length] using hz) x.cps.toList
  have h2 : x.cps.toList.length ≤ n := by simpa [Str.length] using hx
  have h3 : k * x.cps.toList.length ≤ k * n := Nat.mul_le_mul_left _ h2
  show ((rep c1 z.cps.toList x.cps.toList).toArray).size ≤ k * n
  rw [List.size_toArray]; omega
theorem chain7_eq (x : Str) : Txt.replace (Txt.replace (Txt.replace (Txt.replace (Txt.replace (Txt.replace (Txt.replace x (Str.ofString "&") (Str.ofString "&amp;")) (Str.ofString "<") (Str.ofString "&lt;")) (Str.ofString ">") (Str.ofString "&gt;")) (Str.ofString "\"") (Str.ofString "&quot;")) (Str.ofString "\r") (Str.ofString "&#13;")) (Str.ofString "\n") (Str.ofString "&#10;")) (Str.ofString "\t") (Str.ofString "&#09;") = ⟨(chain7 x.cps.toList).toArray⟩ := by
  rw [show Str.ofString "&" = ⟨#[38]⟩ by decide +kernel, show Str.ofString "<" = ⟨#[60]⟩ by decide +kernel, show Str.ofString ">" = ⟨#[62]⟩ by decide +kernel, show Str.ofString "\"" = ⟨#[34]⟩ by decide +kernel,
    show Str.ofString "\r" = ⟨#[13]⟩ by decide +kernel, show Str.ofString "\n" = ⟨#[10]⟩ by decide +kernel, show Str.ofString "\t" = ⟨#[9]⟩ by decide +kernel]
  rw [show Str.ofString "&amp;" = ⟨#[38, 97, 109, 112, 59]⟩ by decide +kernel, show Str.ofString "&lt;" = ⟨#[38, 108, 116, 59]⟩ by decide +kernel, show Str.ofString "&gt;" = ⟨#[38, 103, 116, 59]⟩ by decide +kernel, show Str.ofString "&quot;" = ⟨#[38, 113, 117, 111, 116, 59]⟩ by decide +kernel,
    show Str.ofString "&#13;" = ⟨#[38, 35, 49, 51, 59]⟩ by decide +kernel, show Str.ofString "&#10;" = ⟨#[38, 35, 49, 48, 59]⟩ by decide +kernel, show Str.ofString "&#09;" = ⟨#[38, 35, 48, 57, 59]⟩ by decide +kernel]
  simp only [replace_rep]; rfl
theorem rep_cons (c : Nat) (z : List Nat) (a : Nat) (l : List Nat) : rep c z (a :: l) = (if a = c then z else [a]) ++ rep c z l := by simp [rep]
theorem rep_nil (c : Nat) (z : List Nat) : rep c z [] = [] := rfl
theorem chain7_nil : chain7 [] = [] := rfl
theorem chain7_one (k : Nat) : (chain7 [k]).length ≤ 6 := by
  by_cases h1 : k = 38
  · subst h1; decide
  by_cases h2 : k = 60
  · subst h2; decide
  by_cases h3 : k = 62
  · subst h3; decide
  by_cases h4 : k = 34
  · subst h4; decide
  by_cases h5 : k = 13
  · subst h5; decide
  by_cases h6 : k = 10
  · subst h6; decide
  by_cases h7 : k = 9
  · subst h7; decide
  simp [chain7, rep, h1, h2, h3, h4, h5, h6, h7]
theorem chain7_len : ∀ l : List Nat, (chain7 l).length ≤ 6 * l.length
  | [] => by simp [chain7_nil]
  | k :: r => by
    have h := chain7_append [k] r
    have h1 := chain7_one k
    have h2 := chain7_len r
    rw [show k :: r = [k] ++ r from rfl, h, List.length_append, List.length_append, List.length_singleton]
    omega
/-- what a row is dressed in: behind an odd number of folding marks the marks are escaped -/
noncomputable def drL (fl : List Nat) : Bool → List Nat → List Nat
  | _, [] => []
  | hid, k :: r => (if hid then chain7 [k] else [k]) ++ drL fl (hid != fl.contains k) r
theorem drL_len (fl : List Nat) : ∀ (r : List Nat) (hid : Bool), (drL fl hid r).length ≤ 6 * r.length
  | [], _ => by simp [drL]
  | k :: r, hid => by
    have h1 := chain7_one k
    have h2 := drL_len fl r (hid != fl.contains k)
    simp only [drL, List.length_append, List.length_cons]
    cases hid
    · simp only [Bool.false_eq_true, if_false, List.length_singleton]; omega
    · simp only [if_true]; omega
noncomputable def enc (hid : Bool) (l : List Nat) : List Nat := if hid then chain7 l else l
noncomputable def toN (ks : List Int) : List Nat := ks.map Int.toNat
def DrP (fl : List Nat) (pre : List Int) (w pc : Str) (hid : Bool) : Prop :=
  (∀ rest, drL fl false (toN pre ++ rest) = w.cps.toList ++ enc hid pc.cps.toList ++ drL fl hid rest) ∧ pc.length ≤ pre.length ∧ w.length ≤ 6 * pre.length
theorem DrP_start (fl : List Nat) (w pc : Str) (hw : w.cps.toList = []) (hp : pc.cps.toList = []) : DrP fl [] w pc false := by
  refine ⟨fun rest => by rw [hw, hp]; rfl, ?_, ?_⟩
  · simp [Str.length, ← Array.length_toList, hp]
  · simp [Str.length, ← Array.length_toList, hw]
theorem enc_append (hid : Bool) (a b : List Nat) : enc hid (a ++ b) = enc hid a ++ enc hid b := by
  cases hid
  · rfl
  · exact chain7_append a b
theorem DrP_keep {fl : List Nat} {pre : List Int} {w pc : Str} {hid : Bool} {n : Int} (h : DrP fl pre w pc hid) (hn : fl.contains n.toNat = false) : DrP fl (pre ++ [n]) w (pc ++ ⟨#[n.toNat]⟩) hid := by
  obtain ⟨h1, h2, h3⟩ := h
  refine ⟨fun rest => ?_, ?_, ?_⟩
  · have e := h1 (n.toNat :: rest)
    have e1 : toN (pre ++ [n]) ++ rest = toN pre ++ n.toNat :: rest := by simp [toN]
    rw [e1, e, Str.cps_append, Array.toList_append, enc_append]
    simp only [drL, hn, Bool.bne_false, List.append_assoc]
    cases hid <;> rfl
  · simp only [Str.length_append, List.length_append, List.length_singleton]; show _ + 1 ≤ _; omega
  · simp only [List.length_append, List.length_singleton]; omega
theorem DrP_fold {fl : List Nat} {pre : List Int} {w pc w' : Str} {hid : Bool} {n : Int} (h : DrP fl pre w pc hid) (hn : fl.contains n.toNat = true) (hw : w'.cps.toList = w.cps.toList ++ enc hid (pc.cps.toList ++ [n.toNat])) :
    DrP fl (pre ++ [n]) w' ⟨#[]⟩ (!hid) := by
  obtain ⟨h1, h2, h3⟩ := h
  have e2 : ∀ rest, drL fl false (toN (pre ++ [n]) ++ rest) = w'.cps.toList ++ drL fl (!hid) rest := by
    intro rest
    have e := h1 (n.toNat :: rest)
    have e1 : toN (pre ++ [n]) ++ rest = toN pre ++ n.toNat :: rest := by simp [toN]
    rw [e1, e, hw, enc_append]
    simp only [drL, hn, Bool.bne_true, List.append_assoc]
    cases hid <;> rfl
  refine ⟨fun rest => ?_, Nat.zero_le _, ?_⟩
  · rw [e2 rest]; cases hid <;> simp [enc, chain7_nil]
  · have e := e2 []
    have h4 := drL_len fl (toN (pre ++ [n]) ++ []) false
    rw [e] at h4
    simp only [List.length_append, drL, List.append_nil, toN, List.length_map] at h4 ⊢
    simpa [Str.length] using h4
theorem DrP_end {fl : List Nat} {pre : List Int} {w pc : Str} {hid : Bool} (h : DrP fl pre w pc hid) : w.cps.toList ++ enc hid pc.cps.toList = drL fl false (toN pre) := by
  have e := h.1 []
  simpa [drL] using e.symm
theorem in_one {w : World} {A : Around} {E : Value → Shared → Prop} {s : Shared} {x : Str} {c : Nat} {t u : Tok} {Q : Value → Shared → Prop} (h : Q (.bool (x.cps.toList.contains c)) s) :
    wpAny (model PG w) A (compareOp .In (.str ⟨#[c]⟩ u) (.str x t)) Q E s := by
  refine in_str ?_
  rw [StrLaws.found_one]
  have e : decide (c ∈ x.cps.toList) = x.cps.toList.contains c := by
    rw [Bool.eq_iff_iff]; simp
  rw [e]; exact h
theorem DrP_lens {fl : List Nat} {pre : List Int} {w pc : Str} {hid : Bool} (h : DrP fl pre w pc hid) : pc.length ≤ pre.length ∧ w.length ≤ 6 * pre.length := ⟨h.2.1, h.2.2⟩
theorem enc_true (x : Str) : (⟨(chain7 x.cps.toList).toArray⟩ : Str).cps.toList = enc true x.cps.toList := by simp [enc]
theorem chainS_len (x : Str) : (⟨(chain7 x.cps.toList).toArray⟩ : Str).length ≤ 6 * x.length := by
  have h := chain7_len x.cps.toList
  simpa [Str.length] using h
theorem len_one (c : Nat) : (⟨#[c]⟩ : Str).length = 1 := rfl
theorem DrP_foldT {fl : List Nat} {pre : List Int} {w pc p0 y : Str} {hid : Bool} {n : Int} (hy : y = ⟨(chain7 (pc ++ ⟨#[n.toNat]⟩).cps.toList).toArray⟩) (h : DrP fl pre w pc hid) (hh : hid = true) (hn : fl.contains n.toNat = true) (h0 : p0.cps.toList = []) :
    DrP fl (pre ++ [n]) (w ++ y) p0 (!hid) := by
  subst hy
  have e : p0 = ⟨#[]⟩ := by obtain ⟨⟨l⟩⟩ := p0; simp at h0; rw [h0]
  subst e
  exact DrP_fold h hn (by subst hh; simp [enc, Str.cps_append])
theorem DrP_foldF {fl : List Nat} {pre : List Int} {w pc p0 : Str} {hid : Bool} {n : Int} (h : DrP fl pre w pc hid) (hh : hid = false) (hn : fl.contains n.toNat = true) (h0 : p0.cps.toList = []) :
    DrP fl (pre ++ [n]) (w ++ (pc ++ ⟨#[n.toNat]⟩)) p0 (!hid) := by
  have e : p0 = ⟨#[]⟩ := by obtain ⟨⟨l⟩⟩ := p0; simp at h0; rw [h0]
  subst e
  exact DrP_fold h hn (by subst hh; simp [enc, Str.cps_append])
theorem toN_bytes (l : List UInt8) : toN (l.map fun c => (c.toNat : Int)) = l.map UInt8.toNat := by simp [toN]
theorem DrP_endT {fl : List Nat} {l : List UInt8} {w pc y : Str} {hid : Bool} (h : DrP fl (l.map fun c => (c.toNat : Int)) w pc hid) (hh : hid = true) (hy : y = ⟨(chain7 pc.cps.toList).toArray⟩) : w ++ y = ⟨(drL fl false (l.map UInt8.toNat)).toArray⟩ := by
  have e := DrP_end h
  rw [toN_bytes, hh] at e
  subst hy
  rw [← e]
  apply Str.ext'
  simp [Str.cps_append, enc]
theorem DrP_endF {fl : List Nat} {l : List UInt8} {w pc : Str} {hid : Bool} (h : DrP fl (l.map fun c => (c.toNat : Int)) w pc hid) (hh : hid = false) : w ++ pc = ⟨(drL fl false (l.map UInt8.toNat)).toArray⟩ := by
  have e := DrP_end h
  rw [toN_bytes, hh] at e
  rw [← e]
  apply Str.ext'
  simp [Str.cps_append, enc]
local macro_rules | `(tactic| walk_at "execs cons") => `(tactic| (k_here; with_reducible refine gen_tk ?_; intro tk htk))
local macro_rules | `(tactic| walk_at "execs nil") => `(tactic| (k_here; with_reducible refine gen_tk ?_; intro tk htk))
local macro_rules | `(tactic| walk_at "call builtin:str.replace") => `(tactic| (refine SC.replaceW (by show @Ne Nat _ _; omega) (by show @Ne Nat _ _; omega) (by show @Ne Nat _ _; omega) (by decide +kernel) (by first | omega | assumption) (by decide +kernel) ?_; intro _ _))
local macro_rules | `(tactic| walk_at "compareOp In str str") => `(tactic| (with_reducible refine in_one ?_))
/-- entries of a ledger, picked by their places -/
noncomputable def nthL : Nat → List (Addr × Obj) → List (Addr × Obj)
  | _, [] => []
  | 0, x :: _ => [x]
  | n + 1, _ :: l => nthL n l
noncomputable def pickL : List Nat → List (Addr × Obj) → List (Addr × Obj)
  | [], _ => []
  | i :: is, l => nthL i l ++ pickL is l
theorem nthL_sub : ∀ (n : Nat) (l : List (Addr × Obj)), ∀ p ∈ nthL n l, p ∈ l
  | _, [], _, h => by simp [nthL] at h
  | 0, x :: l, p, h => by rw [List.mem_singleton.mp h]; exact List.mem_cons_self
  | n + 1, _ :: l, p, h => List.mem_cons_of_mem _ (nthL_sub n l p h)
theorem pickL_sub : ∀ (is : List Nat) (l : List (Addr × Obj)), ∀ p ∈ pickL is l, p ∈ l
  | [], _, _, h => by simp [pickL] at h
  | i :: is, l, p, h => by
    rcases List.mem_append.mp h with h | h
    · exact nthL_sub i l p h
    · exact pickL_sub is l p h
theorem news_pick {h₀ h : Heap} {L : Addr} {l : List (Addr × Obj)} (is : List Nat) (N : News h₀ L h l) : News h₀ L h (pickL is l) := fun p hp => N p (pickL_sub is l p hp)
theorem mem_pick {l : List (Addr × Obj)} {p : Addr × Obj} (n : Nat) (h : p ∈ nthL n l) : p ∈ l := nthL_sub n l p h
/-- a ledger of parts; the last one stays -/
noncomputable def flatT : List (List (Addr × Obj)) → List (Addr × Obj) → List (Addr × Obj)
  | [], t => t
  | l :: ls, t => l ++ flatT ls t
noncomputable def segL : Nat → List (List (Addr × Obj)) → List (Addr × Obj)
  | _, [] => []
  | 0, l :: _ => l
  | n + 1, _ :: ls => segL n ls
noncomputable def segs : List Nat → List (List (Addr × Obj)) → List (List (Addr × Obj))
  | [], _ => []
  | i :: is, ls => segL i ls :: segs is ls
theorem flatT_tail : ∀ (ls : List (List (Addr × Obj))) (t : List (Addr × Obj)), ∀ p ∈ t, p ∈ flatT ls t
  | [], _, _, h => h
  | _ :: ls, t, p, h => List.mem_append_right _ (flatT_tail ls t p h)
theorem segL_sub : ∀ (n : Nat) (ls : List (List (Addr × Obj))) (t : List (Addr × Obj)), ∀ p ∈ segL n ls, p ∈ flatT ls t
  | _, [], _, _, h => by simp [segL] at h
  | 0, l :: ls, t, p, h => List.mem_append_left _ h
  | n + 1, _ :: ls, t, p, h => List.mem_append_right _ (segL_sub n ls t p h)
theorem segs_sub : ∀ (is : List Nat) (ls : List (List (Addr × Obj))) (t : List (Addr × Obj)), ∀ p ∈ flatT (segs is ls) t, p ∈ flatT ls t
  | [], ls, t, p, h => flatT_tail ls t p h
  | i :: is, ls, t, p, h => by
    rcases List.mem_append.mp h with h | h
    · exact segL_sub i ls t p h
    · exact segs_sub is ls t p h
theorem news_seg {h₀ h : Heap} {L : Addr} (ls : List (List (Addr × Obj))) (t : List (Addr × Obj)) (is : List Nat) (N : News h₀ L h (flatT ls t)) : News h₀ L h (flatT (segs is ls) t) := fun p hp => N p (segs_sub is ls t p hp)
theorem fc {α : Type} {p : α → Prop} {a : α} {l : List α} (h : p a) (t : ∀ x ∈ l, p x) : ∀ x ∈ a :: l, p x := List.forall_mem_cons.mpr ⟨h, t⟩
theorem fapp {p : Addr × Obj → Prop} {k l : List (Addr × Obj)} (h : ∀ x ∈ k, p x) (t : ∀ x ∈ l, p x) : ∀ x ∈ k ++ l, p x := List.forall_mem_append.mpr ⟨h, t⟩
theorem dm {l : List (Addr × Obj)} (n : Nat) {p : Addr × Obj} (h : p ∈ l.drop n) : p ∈ l := List.mem_of_mem_drop h
theorem off_map {a b : Addr × Obj} {tab : List (Addr × Obj)} {p : Addr × Obj} (h : @Ne Nat p.1 a.1 ∧ @Ne Nat p.1 b.1 ∧ ∀ q ∈ tab, @Ne Nat q.1 p.1) : p.1 ∉ (a :: b :: tab).map (·.1) := fun hc => by
  obtain ⟨a1, a2, a3⟩ := h
  simp only [List.map_cons, List.mem_cons, List.mem_map] at hc
  rcases hc with h | h | ⟨q, hq, h⟩
  · exact a1 h
  · exact a2 h
  · exact a3 q hq h
theorem seven_all {P : Nat → Prop} (h0 : P 0) (h1 : P 1) (h2 : P 2) (h3 : P 3) (h4 : P 4) (h5 : P 5) (h6 : P 6) : ∀ k, k < 7 → P k
  | 0, _ => h0
  | 1, _ => h1
  | 2, _ => h2
  | 3, _ => h3
  | 4, _ => h4
  | 5, _ => h5
  | 6, _ => h6
  | n + 7, h => absurd h (by omega)
noncomputable def ix (c : Nat) : Int := if c = 34 then 0 else if c = 60 then 1 else 2
def isM (c : Nat) : Prop := c = 34 ∨ c = 60 ∨ c = 62
theorem idx_rule {w : World} {A : Around} {E : Value → Shared → Prop} {s : Shared} {c : Nat} {t u : Tok} {Q : Value → Shared → Prop} (hc : isM c) (h : Q (.int (ix c) s.toks) { s with toks := s.toks + 1 }) :
    wpAny (model PG w) A (call (.builtin "str.index") [.str (Str.ofString "\"<>") t, .str ⟨#[c]⟩ u]) Q E s := by
  rcases hc with rfl | rfl | rfl
  · exact SC.index (i := 0) (rest := []) (by decide +kernel) h
  · exact SC.index (i := 1) (rest := []) (by decide +kernel) h
  · exact SC.index (i := 2) (rest := []) (by decide +kernel) h
noncomputable def chA (x : Str) (k : Int) : Nat := x.cps.toList.getD k.toNat 0
theorem item_at {x : Str} {k : Int} (h0 : 0 ≤ k) (h1 : k < x.length) : Txt.item x k = ⟨#[chA x k]⟩ := by
  obtain ⟨n, hn⟩ := StrLaws.some_at h0 h1
  have e := StrLaws.at_nonneg h0 hn
  unfold Txt.item
  have e2 : Txt.charAt x k = some n := e
  rw [e2]
  have e3 : chA x k = n := by
    unfold chA
    rw [List.getD_eq_getElem?_getD, Array.getElem?_toList, hn]; rfl
  rw [e3]; rfl
theorem item_rule {w : World} {A : Around} {E : Value → Shared → Prop} {s : Shared} {value slice : Expr} {x : Str} {t : Tok} {Q : Value → Shared → Prop} {i : Int} {u : Tok}
    (h0 : 0 ≤ i) (h1 : i < x.length) (hx : x.length ≤ 1048576) (h : Q (.str ⟨#[chA x i]⟩ s.toks) { s with toks := s.toks + 1 })
    (hs : subscripted slice false (.str x t) (.int i u) = operate [.str x t, .int i u] (getItem (.str x t) (.int i u)) := by with_unfolding_all rfl)
    (ht : ∀ r, letTemporaryGo value (.str x t) r = pure () := by intro _; with_unfolding_all rfl) :
    wpAny (model PG w) A (subscriptTail value slice (.str x t) (.int i u)) Q E s := by
  refine item_str (fitsSsize_of (N := 9223372036854775808) (by omega) (by omega) (Int.le_refl _)) (by omega) h1 (fun _ => ?_) hs ht
  rw [item_at h0 h1]; exact h
theorem fmod_in {a : Int} {n : Nat} (hn : 1 ≤ n) : 0 ≤ a.fmod (n : Int) ∧ a.fmod (n : Int) < n :=
  ⟨Int.fmod_nonneg_of_pos a (by omega), Int.fmod_lt_of_pos a (by omega)⟩
theorem chA_isM {x : Str} (hx : ∀ c ∈ x.cps.toList, isM c) {k : Int} (h0 : 0 ≤ k) (h1 : k < x.length) : isM (chA x k) := by
  unfold chA
  have h2 : k.toNat < x.cps.toList.length := by have : x.length = x.cps.toList.length := rfl; omega
  rw [List.getD_eq_getElem?_getD, List.getElem?_eq_getElem h2]
  exact hx _ (List.getElem_mem h2)
/-- a row's fraction: the numerator, and the sign -/
noncomputable def fA (fl : List Nat) : List Nat → Int
  | [] => 0
  | c :: l => (if fl.contains c then 3 ^ l.length - fA fl l else fA fl l) + ix c * 3 ^ l.length
noncomputable def fW (fl : List Nat) : List Nat → Int
  | [] => 1
  | c :: l => if fl.contains c then -(fW fl l) else fW fl l
theorem ix_in (c : Nat) : 0 ≤ ix c ∧ ix c ≤ 2 := by unfold ix; (repeat' split) <;> decide
theorem pow3_pos (n : Nat) : (0 : Int) < 3 ^ n := Int.pow_pos (by decide)
theorem fA_in (fl : List Nat) : ∀ l : List Nat, 0 ≤ fA fl l ∧ fA fl l ≤ 3 ^ l.length
  | [] => by simp [fA]
  | c :: l => by
    have ih := fA_in fl l
    have h3 := pow3_pos l.length
    have hi := ix_in c
    have h4 : 0 ≤ ix c * 3 ^ l.length := Int.mul_nonneg hi.1 (Int.le_of_lt h3)
    have h5 : ix c * 3 ^ l.length ≤ 2 * 3 ^ l.length := Int.mul_le_mul_of_nonneg_right hi.2 (Int.le_of_lt h3)
    have h6 : (3 : Int) ^ (c :: l).length = 3 * 3 ^ l.length := by rw [List.length_cons, Int.pow_succ]; omega
    rw [h6]
    simp only [fA]
    generalize ix c * 3 ^ l.length = a at *
    generalize (3 : Int) ^ l.length = b at *
    split <;> omega
theorem fW_in (fl : List Nat) : ∀ l : List Nat, fW fl l = 1 ∨ fW fl l = -1
  | [] => .inl rfl
  | c :: l => by
    have ih := fW_in fl l
    simp only [fW]
    split <;> omega
noncomputable abbrev chM (x : Str) (b k : Int) : Nat := chA x ((b + k).fmod x.length)
def FrP (fl : List Nat) (x : Str) (b : Int) (pre : List Int) (above power way : Int) : Prop :=
  above = fA fl (pre.reverse.map (chM x b)) ∧ power = 3 ^ pre.length ∧ way = fW fl (pre.reverse.map (chM x b))
theorem pow3_le {n : Nat} (h : n ≤ 6) : (3 : Int) ^ n ≤ 729 := by
  have : n = 0 ∨ n = 1 ∨ n = 2 ∨ n = 3 ∨ n = 4 ∨ n = 5 ∨ n = 6 := by omega
  rcases this with rfl | rfl | rfl | rfl | rfl | rfl | rfl <;> decide
theorem FrP_bounds {fl : List Nat} {x : Str} {b : Int} {pre : List Int} {above power way : Int} (h : FrP fl x b pre above power way) (hp : pre.length ≤ 6) :
    0 ≤ above ∧ above ≤ 729 ∧ 1 ≤ power ∧ power ≤ 729 ∧ above ≤ power ∧ -1 ≤ way ∧ way ≤ 1 := by
  obtain ⟨rfl, rfl, rfl⟩ := h
  have h1 := fA_in fl (pre.reverse.map (chM x b))
  have h2 := fW_in fl (pre.reverse.map (chM x b))
  have h3 := pow3_pos pre.length
  have h4 := pow3_le hp
  rw [List.length_map, List.length_reverse] at h1
  omega
theorem FrP_start (fl : List Nat) (x : Str) (b : Int) : FrP fl x b [] 0 1 1 := ⟨rfl, rfl, rfl⟩
theorem FrP_fold {fl : List Nat} {x : Str} {b k : Int} {pre : List Int} {above power way : Int} (h : FrP fl x b pre above power way) (hc : fl.contains (chM x b k) = true) :
    FrP fl x b (pre ++ [k]) (power - above + ix (chM x b k) * power) (power * 3) (-way) := by
  obtain ⟨rfl, rfl, rfl⟩ := h
  refine ⟨?_, ?_, ?_⟩
  · simp only [List.reverse_append, List.reverse_cons, List.reverse_nil, List.nil_append, List.singleton_append, List.map_cons, fA, hc, if_true, List.length_map, List.length_reverse]
  · rw [List.length_append, List.length_singleton, Int.pow_succ]
  · simp only [List.reverse_append, List.reverse_cons, List.reverse_nil, List.nil_append, List.singleton_append, List.map_cons, fW, hc, if_true]
theorem FrP_keep {fl : List Nat} {x : Str} {b k : Int} {pre : List Int} {above power way : Int} (h : FrP fl x b pre above power way) (hc : fl.contains (chM x b k) = false) :
    FrP fl x b (pre ++ [k]) (above + ix (chM x b k) * power) (power * 3) way := by
  obtain ⟨rfl, rfl, rfl⟩ := h
  refine ⟨?_, ?_, ?_⟩
  · simp only [List.reverse_append, List.reverse_cons, List.reverse_nil, List.nil_append, List.singleton_append, List.map_cons, fA, hc, Bool.false_eq_true, if_false, List.length_map, List.length_reverse]
  · rw [List.length_append, List.length_singleton, Int.pow_succ]
  · simp only [List.reverse_append, List.reverse_cons, List.reverse_nil, List.nil_append, List.singleton_append, List.map_cons, fW, hc, Bool.false_eq_true, if_false]
theorem mul_ix {w : World} {A : Around} {E : Value → Shared → Prop} {s : Shared} {c : Nat} {b : Int} {t u : Tok} {Q : Value → Shared → Prop} (h : Q (.int (ix c * b) s.toks) { s with toks := s.toks + 1 }) :
    wpAny (model PG w) A (binaryOp .Mult (.int (ix c) t) (.int b u)) Q E s :=
  mul_int h (IntMulOk.of_left (intBits_le_64 (by have := ix_in c; omega) (by have := ix_in c; omega)))
theorem mul_in {w : World} {A : Around} {E : Value → Shared → Prop} {s : Shared} {a b : Int} {t u : Tok} {Q : Value → Shared → Prop} (h1 : -1000000 ≤ a) (h2 : a ≤ 1000000) (h : Q (.int (a * b) s.toks) { s with toks := s.toks + 1 }) :
    wpAny (model PG w) A (binaryOp .Mult (.int a t) (.int b u)) Q E s :=
  mul_int h (IntMulOk.of_left (intBits_le_64 (by omega) (by omega)))
theorem downKs_rev (n : Nat) : (downKs ((n : Int) - 1) n).reverse = (List.range n).map fun (i : Nat) => (i : Int) := by
  apply List.ext_getElem
  · simp [downKs]
  · intro i h1 h2
    simp only [downKs, List.length_reverse, List.length_map, List.length_range] at h1
    simp only [downKs, List.getElem_reverse, List.getElem_map, List.getElem_range, List.length_map, List.length_range]
    omega
theorem FrP_end {fl : List Nat} {x : Str} {b : Int} {n : Nat} {above power way : Int} (h : FrP fl x b (downKs ((x.length : Int) - 1) n) above power way) (hn : n = x.length) :
    above = fA fl ((List.range x.length).map fun (i : Nat) => chM x b (i : Int)) ∧ power = 3 ^ x.length ∧ way = fW fl ((List.range x.length).map fun (i : Nat) => chM x b (i : Int)) := by
  subst hn
  obtain ⟨h1, h2, h3⟩ := h
  rw [downKs_rev, List.map_map] at h1 h3
  refine ⟨h1, ?_, h3⟩
  rw [h2]; simp [downKs]
local macro_rules | `(tactic| walk_at "subscriptTail") => `(tactic| (k_here; (with_reducible show wpAny _ _ (subscriptTail _ _ (Value.str _ _) (Value.int (Int.fmod _ _) _)) _ _ _); refine item_rule (Int.fmod_nonneg_of_pos _ (by omega)) (Int.fmod_lt_of_pos _ (by omega)) (by omega) ?_))
local macro_rules | `(tactic| walk_at "call builtin:str.index") => `(tactic| (k_here; (refine idx_rule (by first | assumption | (exact chA_isM (by assumption) (Int.fmod_nonneg_of_pos _ (by omega)) (Int.fmod_lt_of_pos _ (by omega)))) ?_)))
local macro_rules | `(tactic| walk_at "binaryOp Mult int int") => `(tactic| (k_here; first | with_reducible refine mul_ix ?_ | (with_reducible refine mul_in ?cH1 ?cH2 ?_; (case cH1 => omega); (case cH2 => omega))))
section
variable {w : World} {A A₀ : Around} {E : Value → Shared → Prop} {s : Shared} {h₀ base : Heap} {L fa : Addr} {m : Str → Option Value} {news : List (Addr × Obj)} {env : Env}
def EscQ (h₀ : Heap) (L : Addr) (m : Str → Option Value) (news : List (Addr × Obj)) (s : Shared) (x : Str) (fl : Flow) (s' : Shared) : Prop :=
  fl = .next ∧ ∃ t' h' tk', 0 < tk' ∧ s' = { s with heap := h', toks := tk' } ∧ Fr h₀ L h' (fun y => if y = Str.ofString "text" then some (.str x t') else m y) ∧ News h₀ L h' news
/-- one 'if c in text: text = text.replace(c, z)': both ways are the replaced text -/
theorem esc_if {x c z : Str} {t : Tok} {Q : Flow → Shared → Prop} {q0 q1 q2 q3 q4 q5 q6 q7 q8 q9 q10 : Pos}
  (F : Fr h₀ L s.heap m) (N : News h₀ L s.heap news) (_hm : m (Str.ofString "text") = some (.str x t))
  (hw : wpAny (model PG w) A (exec (Stmt.If (Expr.Compare (Expr.Constant (Const.str c) 0 q0) [CmpOp.In] [Expr.Name (Str.ofString "text") q1] q2)
     [Stmt.Assign [Expr.Name (Str.ofString "text") q3] (Expr.Call (Expr.Attribute (Expr.Name (Str.ofString "text") q4) (Str.ofString "replace") q5) [Expr.Constant (Const.str c) 0 q6, Expr.Constant (Const.str z) 0 q7] [] q8) q9] [] q10) env) (EscQ h₀ L m news s (Txt.replace x c z)) E s)
  (H : ∀ t' h' tk', 0 < tk' → Fr h₀ L h' (fun y => if y = Str.ofString "text" then some (.str (Txt.replace x c z) t') else m y) → News h₀ L h' news → Q .next { s with heap := h', toks := tk' }) :
  wpAny (model PG w) A (exec (Stmt.If (Expr.Compare (Expr.Constant (Const.str c) 0 q0) [CmpOp.In] [Expr.Name (Str.ofString "text") q1] q2)
     [Stmt.Assign [Expr.Name (Str.ofString "text") q3] (Expr.Call (Expr.Attribute (Expr.Name (Str.ofString "text") q4) (Str.ofString "replace") q5) [Expr.Constant (Const.str c) 0 q6, Expr.Constant (Const.str z) 0 q7] [] q8) q9] [] q10) env) Q E s :=
  wpAny_mono hw (fun fl s' h => by obtain ⟨rfl, t', h', tk', h0, rfl, F', N'⟩ := h; exact H t' h' tk' h0 F' N') fun _ _ h => h
theorem escQ_skip {x c z : Str} {t : Tok} {c1 tk' : Nat} {h' : Heap} (F : Fr h₀ L h' m) (N : News h₀ L h' news) (hm : m (Str.ofString "text") = some (.str x t))
  (ho : (Builtin.Str.occurrences x c 0 x.length 1).isEmpty = true) (hc : c = ⟨#[c1]⟩) (ht : 0 < tk') : EscQ h₀ L m news s (Txt.replace x c z) .next { s with heap := h', toks := tk' } := by
  have e : Txt.replace x c z = x := by
    subst hc
    have h1 := StrLaws.found_one x c1
    rw [ho] at h1
    exact replace_none (of_decide_eq_false (by simpa using h1.symm))
  refine ⟨rfl, t, h', tk', ht, rfl, ?_, N⟩
  rw [e]
  have e2 : (fun y => if y = Str.ofString "text" then some (Value.str x t) else m y) = m := by
    funext y
    by_cases h : y = Str.ofString "text"
    · rw [if_pos h, h, hm]
    · rw [if_neg h]
  rw [e2]; exact F
theorem escQ_take {x : Str} {t : Tok} {tk' : Nat} {h' : Heap} (F : Fr h₀ L h' (fun y => if y = Str.ofString "text" then some (.str x t) else m y)) (N : News h₀ L h' news) (ht : 0 < tk') :
  EscQ h₀ L m news s x .next { s with heap := h', toks := tk' } := ⟨rfl, t, h', tk', ht, rfl, F, N⟩
end
theorem esc_C {w : World} {mean : ExcName → Option Value} {mg mb : Str → Option Value} (news : List (Addr × Obj)) (x : Str) (t : Tok) :
  CL w mean mg mb 2 28 news (x.length ≤ 7) [.str x t] (fun h₀ L m s Q => ∀ t h' tk' (y : Str), 0 < tk' → y = ⟨(chain7 x.cps.toList).toArray⟩ → y.length ≤ 42 → Fr h₀ L h' m → News h₀ L h' news → Q (.str y t) { s with heap := h', toks := tk' }) := by
  dsimp only [CL]; intro dp un gd cn cs a ccd cl outer A₀ base h₀ L m s Q E B F X N T hcs hpre hdp hun hret
  refine wpAny_call ?_
  k_dflt cell_enter
  have hl0 : x.length ≤ 7 := hpre
  (repeat' (first | (k_unfold; (try dsimp only)) | (k_end; wrow_close) | ((fail_if_success (with_reducible show wpAny _ _ (exec (Stmt.If _ _ _ _) _) _ _ _)); walk1) | (dsimp only; (fail_if_success (with_reducible show wpAny _ _ (exec (Stmt.If _ _ _ _) _) _ _ _)); walk1)))
  refine' esc_if ?k1 ?k2 ?k3 ?k4 ?_
  (case k1 => k_asm)
  (case k2 => k_asm)
  (case k3 => exact rfl)
  (case k4 => k_steps; (exact escQ_skip (by k_asm) (by k_asm) rfl (by assumption) (c1 := 38) (by decide +kernel) (by omega)); (exact escQ_take (by k_asm) (by k_asm) (by omega)))
  intro t1 h1 tk1 ht1 F1 N1
  have hl1 : (Txt.replace x (Str.ofString "&") (Str.ofString "&amp;")).length ≤ 35 := replace_len (k := 5) (n := 7) (c1 := 38) (by decide +kernel) (by decide) (by decide +kernel) hl0
  (repeat' (first | (k_unfold; (try dsimp only)) | (k_end; wrow_close) | ((fail_if_success (with_reducible show wpAny _ _ (exec (Stmt.If _ _ _ _) _) _ _ _)); walk1) | (dsimp only; (fail_if_success (with_reducible show wpAny _ _ (exec (Stmt.If _ _ _ _) _) _ _ _)); walk1)))
  refine' esc_if ?k1 ?k2 ?k3 ?k4 ?_
  (case k1 => k_asm)
  (case k2 => k_asm)
  (case k3 => exact rfl)
  (case k4 => k_steps; (exact escQ_skip (by k_asm) (by k_asm) rfl (by assumption) (c1 := 60) (by decide +kernel) (by omega)); (exact escQ_take (by k_asm) (by k_asm) (by omega)))
  intro t2 h2 tk2 ht2 F2 N2
  have hl2 : (Txt.replace (Txt.replace x (Str.ofString "&") (Str.ofString "&amp;")) (Str.ofString "<") (Str.ofString "&lt;")).length ≤ 140 := replace_len (k := 4) (n := 35) (c1 := 60) (by decide +kernel) (by decide) (by decide +kernel) hl1
  (repeat' (first | (k_unfold; (try dsimp only)) | (k_end; wrow_close) | ((fail_if_success (with_reducible show wpAny _ _ (exec (Stmt.If _ _ _ _) _) _ _ _)); walk1) | (dsimp only; (fail_if_success (with_reducible show wpAny _ _ (exec (Stmt.If _ _ _ _) _) _ _ _)); walk1)))
  refine' esc_if ?k1 ?k2 ?k3 ?k4 ?_
  (case k1 => k_asm)
  (case k2 => k_asm)
  (case k3 => exact rfl)
  (case k4 => k_steps; (exact escQ_skip (by k_asm) (by k_asm) rfl (by assumption) (c1 := 62) (by decide +kernel) (by omega)); (exact escQ_take (by k_asm) (by k_asm) (by omega)))
  intro t3 h3 tk3 ht3 F3 N3
  have hl3 : (Txt.replace (Txt.replace (Txt.replace x (Str.ofString "&") (Str.ofString "&amp;")) (Str.ofString "<") (Str.ofString "&lt;")) (Str.ofString ">") (Str.ofString "&gt;")).length ≤ 560 := replace_len (k := 4) (n := 140) (c1 := 62) (by decide +kernel) (by decide) (by decide +kernel) hl2
  (repeat' (first | (k_unfold; (try dsimp only)) | (k_end; wrow_close) | ((fail_if_success (with_reducible show wpAny _ _ (exec (Stmt.If _ _ _ _) _) _ _ _)); walk1) | (dsimp only; (fail_if_success (with_reducible show wpAny _ _ (exec (Stmt.If _ _ _ _) _) _ _ _)); walk1)))
  refine' esc_if ?k1 ?k2 ?k3 ?k4 ?_
  (case k1 => k_asm)
  (case k2 => k_asm)
  (case k3 => exact rfl)
  (case k4 => k_steps; (exact escQ_skip (by k_asm) (by k_asm) rfl (by assumption) (c1 := 34) (by decide +kernel) (by omega)); (exact escQ_take (by k_asm) (by k_asm) (by omega)))
  intro t4 h4 tk4 ht4 F4 N4
  have hl4 : (Txt.replace (Txt.replace (Txt.replace (Txt.replace x (Str.ofString "&") (Str.ofString "&amp;")) (Str.ofString "<") (Str.ofString "&lt;")) (Str.ofString ">") (Str.ofString "&gt;")) (Str.ofString "\"") (Str.ofString "&quot;")).length ≤ 3360 := replace_len (k := 6) (n := 560) (c1 := 34) (by decide +kernel) (by decide) (by decide +kernel) hl3
  (repeat' (first | (k_unfold; (try dsimp only)) | (k_end; wrow_close) | ((fail_if_success (with_reducible show wpAny _ _ (exec (Stmt.If _ _ _ _) _) _ _ _)); walk1) | (dsimp only; (fail_if_success (with_reducible show wpAny _ _ (exec (Stmt.If _ _ _ _) _) _ _ _)); walk1)))
  refine' esc_if ?k1 ?k2 ?k3 ?k4 ?_
  (case k1 => k_asm)
  (case k2 => k_asm)
  (case k3 => exact rfl)
  (case k4 => k_steps; (exact escQ_skip (by k_asm) (by k_asm) rfl (by assumption) (c1 := 13) (by decide +kernel) (by omega)); (exact escQ_take (by k_asm) (by k_asm) (by omega)))
  intro t5 h5 tk5 ht5 F5 N5
  have hl5 : (Txt.replace (Txt.replace (Txt.replace (Txt.replace (Txt.replace x (Str.ofString "&") (Str.ofString "&amp;")) (Str.ofString "<") (Str.ofString "&lt;")) (Str.ofString ">") (Str.ofString "&gt;")) (Str.ofString "\"") (Str.ofString "&quot;")) (Str.ofString "\r") (Str.ofString "&#13;")).length ≤ 16800 := replace_len (k := 5) (n := 3360) (c1 := 13) (by decide +kernel) (by decide) (by decide +kernel) hl4
  (repeat' (first | (k_unfold; (try dsimp only)) | (k_end; wrow_close) | ((fail_if_success (with_reducible show wpAny _ _ (exec (Stmt.If _ _ _ _) _) _ _ _)); walk1) | (dsimp only; (fail_if_success (with_reducible show wpAny _ _ (exec (Stmt.If _ _ _ _) _) _ _ _)); walk1)))
  refine' esc_if ?k1 ?k2 ?k3 ?k4 ?_
  (case k1 => k_asm)
  (case k2 => k_asm)
  (case k3 => exact rfl)
  (case k4 => k_steps; (exact escQ_skip (by k_asm) (by k_asm) rfl (by assumption) (c1 := 10) (by decide +kernel) (by omega)); (exact escQ_take (by k_asm) (by k_asm) (by omega)))
  intro t6 h6 tk6 ht6 F6 N6
  have hl6 : (Txt.replace (Txt.replace (Txt.replace (Txt.replace (Txt.replace (Txt.replace x (Str.ofString "&") (Str.ofString "&amp;")) (Str.ofString "<") (Str.ofString "&lt;")) (Str.ofString ">") (Str.ofString "&gt;")) (Str.ofString "\"") (Str.ofString "&quot;")) (Str.ofString "\r") (Str.ofString "&#13;")) (Str.ofString "\n") (Str.ofString "&#10;")).length ≤ 84000 := replace_len (k := 5) (n := 16800) (c1 := 10) (by decide +kernel) (by decide) (by decide +kernel) hl5
  (repeat' (first | (k_unfold; (try dsimp only)) | (k_end; wrow_close) | ((fail_if_success (with_reducible show wpAny _ _ (exec (Stmt.If _ _ _ _) _) _ _ _)); walk1) | (dsimp only; (fail_if_success (with_reducible show wpAny _ _ (exec (Stmt.If _ _ _ _) _) _ _ _)); walk1)))
  refine' esc_if ?k1 ?k2 ?k3 ?k4 ?_
  (case k1 => k_asm)
  (case k2 => k_asm)
  (case k3 => exact rfl)
  (case k4 => k_steps; (exact escQ_skip (by k_asm) (by k_asm) rfl (by assumption) (c1 := 9) (by decide +kernel) (by omega)); (exact escQ_take (by k_asm) (by k_asm) (by omega)))
  intro t7 h7 tk7 ht7 F7 N7
  have hl7 : (Txt.replace (Txt.replace (Txt.replace (Txt.replace (Txt.replace (Txt.replace (Txt.replace x (Str.ofString "&") (Str.ofString "&amp;")) (Str.ofString "<") (Str.ofString "&lt;")) (Str.ofString ">") (Str.ofString "&gt;")) (Str.ofString "\"") (Str.ofString "&quot;")) (Str.ofString "\r") (Str.ofString "&#13;")) (Str.ofString "\n") (Str.ofString "&#10;")) (Str.ofString "\t") (Str.ofString "&#09;")).length ≤ 420000 := replace_len (k := 5) (n := 84000) (c1 := 9) (by decide +kernel) (by decide) (by decide +kernel) hl6
  rw [chain7_eq] at F7
  k_steps
  exact hret _ _ _ _ (by omega) rfl (Nat.le_trans (chainS_len x) (by omega)) (by k_asm) (by k_asm)
local macro_rules | `(tactic| walk_at "call ref") => `(tactic| (k_here; (with_reducible show wpAny _ _ (call (Value.ref 28) [Value.str _ _]) _ _ _); k_dflt (refine' esc_C _ _ _ _ _ _ _ _ _ _ _ _ _ _ _ _ _ _ _ _ ?cB ?cF ?cX ?cN ?cT ?cK ?cP ?cD ?cU ?_; ((((case cB => k_asm); (case cF => k_asm); (case cX => k_asm); (case cN => k_asm); (case cT => k_asm); (case cK => first | exact rfl | assumption); (case cD => ktr_room); (case cU => ktr_units)))); (case cP => first | assumption | omega | (simp only [Str.length_append, len_one]; omega)); intro t9 h9 tk9 y9 ht9 hy9 hl9 F9 N9; (try dsimp only))))
theorem dress_C {w : World} {mean : ExcName → Option Value} {mg mb : Str → Option Value} (news : List (Addr × Obj)) (b : Array UInt8) (fs : Str) (t t2 : Tok) :
  CL w mean mg mb 6 116 news (b.size ≤ 7) [.bytes b t, .str fs t2] (RetV news fun t => .str ⟨(drL fs.cps.toList false (b.toList.map UInt8.toNat)).toArray⟩ t) := by
  dsimp only [CL]; intro dp un gd cn cs a ccd cl outer A₀ base h₀ L m s Q E B F X N T hcs hpre hdp hun hret
  refine wpAny_call ?_
  k_dflt cell_enter
  k_with "state" => first
    | with_reducible exact DrP_keep (by assumption) (by assumption)
    | with_reducible exact DrP_foldT (by assumption) (by assumption) (by assumption) (by assumption) (by decide +kernel)
    | with_reducible exact DrP_foldF (by assumption) (by assumption) (by assumption) (by decide +kernel)
    | with_reducible exact DrP_start _ _ _ (by decide +kernel) (by decide +kernel)
  k_steps
  k_state (fun pre w pc hid => DrP fs.cps.toList pre w pc hid) "written" "piece" "hidden"
  · have hlen := DrP_lens kInv
    have hk1 : b.toList.length ≤ 7 := by simpa using hpre
    k_steps
  · have hlen := DrP_lens kInv
    simp only [List.length_map] at hlen
    have hk1 : b.toList.length ≤ 7 := by simpa using hpre
    k_steps
    · rw [DrP_endT kInv (by assumption) (by assumption)]; exact hret _ _ _ (by k_asm) (by k_asm)
    · rw [DrP_endF kInv (by assumption)]; exact hret _ _ _ (by k_asm) (by k_asm)
theorem frac_C {w : World} {mean : ExcName → Option Value} {mg mb : Str → Option Value} (news : List (Addr × Obj)) (ring fs : Str) (k : Int) (t t1 t2 : Tok) :
  CL w mean mg mb 6 137 news ((∀ c ∈ ring.cps.toList, isM c) ∧ 1 ≤ ring.length ∧ ring.length ≤ 6 ∧ 0 ≤ k ∧ k < 7) [.str ring t, .int k t1, .str fs t2]
   (fun h₀ L m s Q => ∀ D t1 t2 h' tk', Fr h₀ L h' m → News h₀ L h' ((D, { cls := .type "tuple", data := .seq #[.int (fA fs.cps.toList ((List.range ring.length).map fun (i : Nat) => chM ring k (i : Int))) t1, .int (3 ^ ring.length - fW fs.cps.toList ((List.range ring.length).map fun (i : Nat) => chM ring k (i : Int))) t2] }) :: news) → (∀ p ∈ news, p.1 < D) → Q (.ref D) { s with heap := h', toks := tk' }) := by
  dsimp only [CL]; intro dp un gd cn cs a ccd cl outer A₀ base h₀ L m s Q E B F X N T hcs hpre hdp hun hret
  obtain ⟨hp1, hp2, hp3, hp4, hp5⟩ := hpre
  refine wpAny_call ?_
  k_dflt cell_enter
  k_with "state" => first
    | with_reducible exact FrP_keep (by assumption) (by assumption)
    | with_reducible exact FrP_fold (by assumption) (by assumption)
    | with_reducible exact FrP_start _ _ _
  k_with "pyIter ref" => (k_state (fun pre above power way => FrP fs.cps.toList ring k pre above power way) "above" "power" "way"; all_goals (have hb := FrP_bounds kInv (by first | omega | (simp only [downKs_length]; omega))))
  k_steps
  have hE := FrP_end kInv (by omega)
  obtain ⟨e1, e2, e3⟩ := hE
  subst e1 e2 e3
  exact hret _ _ _ _ _ (by k_asm) (by k_asm) (by assumption)
noncomputable def bN (b : Array UInt8) : List Nat := b.toList.map UInt8.toNat
theorem bN_len (b : Array UInt8) : (bN b).length = b.size := by simp [bN]
theorem len7 {w : World} {A : Around} {E : Value → Shared → Prop} {s : Shared} {b : Array UInt8} {n : Nat} {t : Tok} {Q : Value → Shared → Prop} (hb : b.size = n) (hn : n ≤ 1000) (h : Q (.int n (s.toks + 1)) { s with toks := s.toks + 1 + 1 }) :
    wpAny (model PG w) A (call (.builtin "len") [.bytes b t]) Q E s := by
  refine len_bytes (by omega) ?_
  rw [hb]; exact h
noncomputable def bA (b : Array UInt8) (k : Int) : Int := ((bN b).getD k.toNat 0 : Nat)
theorem item_bytes {w : World} {A : Around} {E : Value → Shared → Prop} {s : Shared} {value slice : Expr} {b : Array UInt8} {t u : Tok} {i : Int} {Q : Value → Shared → Prop}
    (h0 : 0 ≤ i) (h1 : i < b.size) (hx : b.size ≤ 1048576) (h : Q (.int (bA b i) s.toks) { s with toks := s.toks + 1 })
    (hs : subscripted slice false (.bytes b t) (.int i u) = operate [.bytes b t, .int i u] (getItem (.bytes b t) (.int i u)) := by with_unfolding_all rfl)
    (ht : ∀ r, letTemporaryGo value (.bytes b t) r = pure () := by intro _; with_unfolding_all rfl) :
    wpAny (model PG w) A (subscriptTail value slice (.bytes b t) (.int i u)) Q E s := by
  obtain ⟨l⟩ := b
  have e : bA ⟨l⟩ i = ((l.getD i.toNat 0).toNat : Int) := by
    simp only [bA, bN, List.getD_eq_getElem?_getD, List.getElem?_map]
    cases l[i.toNat]? <;> rfl
  rw [e] at h
  have h1' : i < l.length := by simpa using h1
  have hx' : l.length ≤ 1048576 := by simpa using hx
  refine tail_any (typeIs_bytes s _ t) FB.slot_bytes_getitem.lookup (getItem_bytes (by omega) h0 h1' h) hs
local macro_rules | `(tactic| walk_at "subscriptTail") => `(tactic| (k_here; (with_reducible show wpAny _ _ (subscriptTail _ _ (Value.bytes _ _) (Value.int _ _)) _ _ _); refine item_bytes (by omega) (by omega) (by omega) ?_))
section
variable {w : World} {A : Around} {E : Value → Shared → Prop} {s : Shared} {env : Env} {h₀ : Heap} {x : Str} {body : List Stmt} {Q : Flow → Shared → Prop}
def TurnQ (h₀ : Heap) (L I : Addr) (io : Obj) (J : (Str → Option Value) → List (Addr × Obj) → Prop) (s₁ : Shared) (Q : Flow → Shared → Prop) (f : Flow) (s₂ : Shared) : Prop :=
  match f with
  | .ret v => Q (.ret v) s₂
  | .brk => Q .next s₂
  | _ => ∃ h' tk m' nw, s₂ = { s₁ with heap := h', toks := tk } ∧ Fr h₀ L h' m' ∧ News h₀ L h' ((I, io) :: nw) ∧ (∀ p ∈ nw, p.1 ≠ I) ∧ J m' nw
/-- a for loop by an invariant over the frame and the ledger; the ledger may grow -/
theorem forJ {I : Addr} {n : Nat} {P : Nat → Value → Prop} {St : Nat → Heap → Prop} {m₀ : Str → Option Value} {news : List (Addr × Obj)} (J : Nat → (Str → Option Value) → List (Addr × Obj) → Prop)
    (W : Walks PG w A I [I] [I] n P St) (hLf : env.locals ≠ I) (hwr : h₀.get? I = none) (hnw : ∀ p ∈ news, p.1 ≠ I) (hst : St 0 s.heap) (F : Fr h₀ env.locals s.heap m₀) (N : News h₀ env.locals s.heap news) (hj : J 0 m₀ news)
    (hex : ∀ i h, St i h → ∃ o, h.get? I = some o)
    (turn : ∀ i v m₁ news₁ io h tk, i < n → P i v → J i m₁ news₁ → (∀ p ∈ news₁, p.1 ≠ I) → Fr h₀ env.locals h (fun y => if y = x then some v else m₁ y) → News h₀ env.locals h ((I, io) :: news₁) → St (i + 1) h →
      wpAny (model PG w) A (execs body env) (TurnQ h₀ env.locals I io (J (i + 1)) { s with heap := h, toks := tk } Q) E { s with heap := h, toks := tk })
    (done : ∀ m₁ news₁ h tk, J n m₁ news₁ → Fr h₀ env.locals h m₁ → News h₀ env.locals h news₁ → Q .next { s with heap := h, toks := tk }) :
    LoopAtV PG w A h₀ env x body Q E (.ref I) s := by
  refine ⟨I, [I], [I], n, P, St, m₀, news, J, rfl, W, by simpa using hLf, by simpa using hwr, by simpa using hnw, hst, F, N, hj, ?_, ?_⟩
  · rintro i v m₁ news₁ s₁ own ⟨hh', tk', rfl⟩ hin hP hJ hoff hown hget hin' hst' F₁ N₁
    obtain ⟨io, hio⟩ := hex _ _ hst'
    have hm : (I, io) ∈ own := hin' I (by simp) hwr io hio
    have hoff' : ∀ p ∈ news₁, p.1 ≠ I := fun p hp => by simpa using hoff p hp
    refine wpAny_mono (turn i v m₁ news₁ io hh' tk' hin hP hJ hoff' F₁ (fun p hp => N₁ p ?_) hst') (fun f s₂ hp => ?_) fun _ _ e => e
    · rcases List.mem_cons.mp hp with rfl | h
      · exact List.mem_append_left _ hm
      · exact List.mem_append_right _ h
    have fin : ∀ s₂, (∃ h' tk m' nw, s₂ = { ({ s with heap := hh', toks := tk' } : Shared) with heap := h', toks := tk } ∧ Fr h₀ env.locals h' m' ∧ News h₀ env.locals h' ((I, io) :: nw) ∧ (∀ p ∈ nw, p.1 ≠ I) ∧ J (i + 1) m' nw) →
        LoopStepU h₀ env.locals [I] own (J (i + 1)) { s with heap := hh', toks := tk' } .next s₂ := by
      rintro s₂ ⟨h', tk, m', nw, e, F', N', ha, hm'⟩
      refine ⟨rfl, h', tk, m', nw, e, F', fun p hp => ?_, fun p hp => by simpa using ha p hp, hm'⟩
      rcases List.mem_append.mp hp with h | h
      · have e1 : p.1 = I := by simpa using hown p h
        have e2 : some p.2 = some io := by rw [← hget p h, e1, hio]
        have : p = (I, io) := by cases p; simp at e1 e2; rw [e1, e2]
        rw [this]; exact N' _ (List.Mem.head _)
      · exact N' p (List.mem_cons_of_mem _ h)
    cases f with
    | ret v => exact .ret hp
    | brk => exact .brk hp
    | next => exact .next (fin _ hp)
    | cont => exact .cont (fin _ hp)
  · rintro h' tk m' news' F' N' _ hJ
    exact done m' news' h' tk hJ F' N'
/-- over a range that was just made: range(a, a + n) -/
theorem forRange {r : Addr} {a₀ b₀ : Int} {t₀ u₀ v₀ : Tok} {n : Nat} {m₀ : Str → Option Value} {news : List (Addr × Obj)} (J : Nat → (Str → Option Value) → List (Addr × Obj) → Prop)
    (hh : A.handled = none) (hr : IsRange s.heap r a₀ b₀ 1 t₀ u₀ v₀) (hsmall : Builtin.Range.small a₀ b₀ 1 = true) (hn : Builtin.Range.rangeSize a₀ b₀ 1 = (n : Int))
    (F : Fr h₀ env.locals s.heap m₀) (N : News h₀ env.locals s.heap news) (hj : J 0 m₀ news)
    (turn : ∀ (i : Nat) t m₁ news₁ I io h tk, i < n → J i m₁ news₁ → (∀ p ∈ news₁, p.1 ≠ I) → Fr h₀ env.locals h (fun y => if y = x then some (.int (a₀ + i) t) else m₁ y) → News h₀ env.locals h ((I, io) :: news₁) → IsRangeIter h I (a₀ + (i + 1 : Nat) * 1) ((n : Int) - (i + 1 : Nat)) 1 →
      wpAny (model PG w) A (execs body env) (TurnQ h₀ env.locals I io (J (i + 1)) { s with heap := h, toks := tk } Q) E { s with heap := h, toks := tk })
    (done : ∀ m₁ news₁ h tk, J n m₁ news₁ → Fr h₀ env.locals h m₁ → News h₀ env.locals h news₁ → Q .next { s with heap := h, toks := tk }) :
    wpAny (model PG w) A (pyIter (.ref r)) (fun it s₂ => LoopAtV PG w A h₀ env x body Q E it s₂) E s := by
  refine wpAny_pyIter_range hr hsmall ?_
  have W := Walks.range (prog := PG) (w := w) hh s.heap.objs.size a₀ 1 n
  refine forJ J W ?_ ?_ ?_ ?_ (F.push _) (fun p hp => ⟨Heap.get?_push_of_some _ (N p hp).1, (N p hp).2⟩) hj ?_ ?_ ?_
  · exact fun e => absurd F.ns.lt (by rw [e]; exact Nat.lt_irrefl _)
  · exact next_is_new F
  · exact fun p hp e => absurd (Heap.lt_size (N p hp).1) (by rw [e]; exact Nat.lt_irrefl _)
  · show IsRangeIter _ _ _ _ _
    rw [hn]; simpa using Heap.get?_push_size _ rfl
  · exact fun i h hst => ⟨_, hst⟩
  · rintro i v m₁ news₁ io h tk hi ⟨t, rfl⟩ hJ hne F₁ N₁ hst
    rw [Int.mul_one] at F₁
    exact turn i t m₁ news₁ _ io h tk hi hJ hne F₁ N₁ hst
  · exact done
end
theorem ne_of_allLt {d : Addr} : ∀ {l : List (Addr × Obj)}, AllLt d l → ∀ p ∈ l, p.1 ≠ d
  | [], _, _, h => nomatch h
  | q :: r, h, p, hp => by
    rcases List.mem_cons.mp hp with rfl | h'
    · exact Nat.ne_of_lt h.1
    · exact ne_of_allLt h.2 p h'
theorem len_7 {w : World} {A : Around} {E : Value → Shared → Prop} {s : Shared} {b : Array UInt8} {t : Tok} {Q : Value → Shared → Prop} (hb : b.size = 7) (h : Q (.int 7 (s.toks + 1)) { s with toks := s.toks + 1 + 1 }) :
    wpAny (model PG w) A (call (.builtin "len") [.bytes b t]) Q E s := by
  refine len_bytes (by omega) ?_
  rw [hb]; exact h
theorem bN_lt (b : Array UInt8) (k : Nat) : (bN b).getD k 0 < 256 := by
  rw [List.getD_eq_getElem?_getD]
  unfold bN
  rw [List.getElem?_map]
  cases b.toList[k]? with
  | none => decide
  | some c => exact c.toNat_lt
theorem chr_bA {w : World} {A : Around} {E : Value → Shared → Prop} {s : Shared} {b : Array UInt8} {k : Int} {t : Tok} {Q : Value → Shared → Prop} (h : Q (.str ⟨#[(bN b).getD k.toNat 0]⟩ s.toks) { s with toks := s.toks + 1 }) :
    wpAny (model PG w) A (call (.builtin "chr") [.int (bA b k) t]) Q E s := by
  have h1 := bN_lt b k.toNat
  have e : bA b k = (((bN b).getD k.toNat 0 : Nat) : Int) := rfl
  refine chr_of_range (by omega) (by omega) ?_
  rw [e, Int.toNat_natCast]; exact h
theorem map2 {x y : Str} {m m₀ : Str → Option Value} {v : Value} (h1 : m y = some v) (h2 : ∀ z, z ≠ x → z ≠ y → m z = m₀ z) : m = fun z => if z = x then m x else if z = y then some v else m₀ z := by
  funext z
  by_cases e1 : z = x
  · rw [if_pos e1, e1]
  · rw [if_neg e1]
    by_cases e2 : z = y
    · rw [if_pos e2, e2, h1]
    · rw [if_neg e2, h2 z e1 e2]
theorem map3 {x y u : Str} {m m₀ : Str → Option Value} {v t : Value} (h1 : m y = some v) (h1' : m u = some t) (h2 : ∀ z, z ≠ x → z ≠ y → z ≠ u → m z = m₀ z) : m = fun z => if z = x then m x else if z = y then some v else if z = u then some t else m₀ z := by
  funext z
  by_cases e1 : z = x
  · rw [if_pos e1, e1]
  · rw [if_neg e1]
    by_cases e2 : z = y
    · rw [if_pos e2, e2, h1]
    · rw [if_neg e2]
      by_cases e3 : z = u
      · rw [if_pos e3, e3, h1']
      · rw [if_neg e3, h2 z e1 e2 e3]
local macro_rules | `(tactic| walk_at "call builtin:len") => `(tactic| (k_here; (with_reducible show wpAny _ _ (call (Value.builtin "len") [Value.bytes _ _]) _ _ _); refine len_7 (by assumption) ?_))
local macro_rules | `(tactic| k_all) => `(tactic| first | assumption | exact ne_of_allLt (by assumption) | exact ne_of_allLt (And.right (by assumption)) | exact ne_of_allLt (And.right (And.right (by assumption))) | exact ne_of_allLt (And.right (And.right (And.right (by assumption)))))
local macro_rules | `(tactic| walk_at "call builtin:list.append") => `(tactic| (k_here; (with_reducible show wpAny _ _ (call (Value.builtin _) [Value.ref _, _]) _ _ _); k_dflt (refine' append_K ?k1 ?k2 ?k3 ?_ ?z; (case k1 => k_asm); (case k2 => k_asm); (case k3 => k_upd); (case z => first | size_fits | (rw [List.size_toArray, sizeLine_eq]; omega)); k_whole); intro h' F' N'; (try k_sweep)))
local macro_rules | `(tactic| walk_at "call builtin:chr") => `(tactic| (k_here; with_reducible refine chr_bA ?_))
local macro_rules | `(tactic| walk_at "enter def") => `(tactic| (refine' code_def ?k1 ?k2 ?k3 ?k4 ?k5 ?kA ?kF ?kK ?k6 ?k7 ?k8 ?k9 ?kB ?_ ?c2 ?c3 ?c4 ?c5; (case kA => exact rfl); (case kF => exact rfl); (case kK => first | exact rfl | assumption); (case k1 => k_asm); (case k2 => k_asm); (case k3 => k_asm); (case k4 => k_asm); (case k5 => k_asm); (case k6 => k_is); (case k7 => k_is); (case k8 => ktr_room); (case k9 => exact BindsTo.of_eq rfl); (case c5 => decide); (case kB => exact locs rfl); (case c2 => exact rfl); (case c3 => exact rfl); (case c4 => exact rfl); k_whole; intro g' L' h' FG' F' N' B' X' T'; (try dsimp only); (try k_lift B'); (try k_fold)))
local macro_rules | `(tactic| walk_at "call ref") => `(tactic| (k_here; (with_reducible show wpAny _ _ (call (Value.ref 79) [Value.ref _]) _ _ _); k_dflt (refine' call_cls ?k1 ?k2 ?k3 ?k4 ?k5 ?k6 ?_; (case k1 => k_asm); (case k2 => k_asm); (case k3 => k_asm); (case k4 => k_is); (case k5 => k_is); (case k6 => k_is); k_whole; intro x' d' h' F' N' l1 l2; (try k_lt l1); (try k_lt2 l2); (try k_sweep); (walk_at "enter def"))))
/-- the sign behind these marks -/
def wS (fl : List Nat) (l : List Nat) : Int := l.foldl (fun w c => if fl.contains c then -w else w) 1
theorem wS_snoc (fl l : List Nat) (c : Nat) : wS fl (l ++ [c]) = if fl.contains c then -(wS fl l) else wS fl l := by simp [wS, List.foldl_append]
theorem wS_in (fl : List Nat) : ∀ (l : List Nat) (w : Int), (w = 1 ∨ w = -1) → (l.foldl (fun w c => if fl.contains c then -w else w) w = 1 ∨ l.foldl (fun w c => if fl.contains c then -w else w) w = -1)
  | [], w, h => h
  | c :: l, w, h => by
    rw [List.foldl_cons]
    refine wS_in fl l _ ?_
    split <;> omega
theorem take_snoc {cs : List Nat} {i : Nat} (h : i < cs.length) : cs.take (i + 1) = cs.take i ++ [cs.getD i 0] := by
  rw [List.take_add_one, List.getElem?_eq_getElem h, List.getD_eq_getElem?_getD, List.getElem?_eq_getElem h]; rfl
abbrev tup2 (a : Int) (t1 : Tok) (b : Int) (t2 : Tok) : Obj := { cls := .type "tuple", data := .seq #[.int a t1, .int b t2] }
def ColsAt (tups : List (Addr × Obj)) (vs : List Value) (fl cs : List Nat) (i : Nat) : Prop :=
  vs.length = i ∧ ∀ k : Nat, k < i → ∃ a t1 t2, vs[k]? = some (.ref a) ∧ (a, tup2 k t1 (wS fl (cs.take k)) t2) ∈ tups
theorem ColsAt.snoc {tups : List (Addr × Obj)} {vs : List Value} {fl cs : List Nat} {i : Nat} {D : Addr} {t1 t2 : Tok} (h : ColsAt tups vs fl cs i) :
    ColsAt ((D, tup2 i t1 (wS fl (cs.take i)) t2) :: tups) (vs ++ [.ref D]) fl cs (i + 1) := by
  refine ⟨by rw [List.length_append, h.1]; rfl, fun k hk => ?_⟩
  by_cases e : k < i
  · obtain ⟨a, t1', t2', h1, h2⟩ := h.2 k e
    exact ⟨a, t1', t2', by rw [List.getElem?_append_left (by rw [h.1]; exact e)]; exact h1, List.mem_cons_of_mem _ h2⟩
  · have : k = i := by omega
    subst this
    exact ⟨D, t1, t2, by rw [List.getElem?_append_right (by rw [h.1]; exact Nat.le_refl _), h.1]; simp, List.Mem.head _⟩
def JJ (l : Addr) (news : List (Addr × Obj)) (m₀ : Str → Option Value) (fl cs : List Nat) (i : Nat) (m : Str → Option Value) (nw : List (Addr × Obj)) : Prop :=
  ∃ tups vs cnt cv tw, nw = (l, listOf (List.toArray vs) cnt) :: (tups ++ news) ∧ m = (fun y => if y = Str.ofString "column" then cv else if y = Str.ofString "way" then some (.int (wS fl (cs.take i)) tw) else m₀ y) ∧
    ColsAt tups vs fl cs i ∧ (∀ p ∈ tups ++ news, p.1 ≠ l) ∧ (∀ p ∈ tups, l < p.1)
section
variable {w : World} {A : Around} {E : Value → Shared → Prop} {s : Shared} {env : Env} {h₀ : Heap} {body : List Stmt} {Q : Flow → Shared → Prop}
theorem judge_loop {l r : Addr} {t₀ u₀ v₀ : Tok} {m₀ : Str → Option Value} {news : List (Addr × Obj)} (fl cs : List Nat)
    (hh : A.handled = none) (hr : IsRange s.heap r 0 7 1 t₀ u₀ v₀)
    (F : Fr h₀ env.locals s.heap m₀) (N : News h₀ env.locals s.heap ((l, listOf #[] 0) :: news)) (hl : ∀ p ∈ news, p.1 < l) (hway : ∃ t, m₀ (Str.ofString "way") = some (.int 1 t))
    (turn : ∀ (i : Nat) t tups vs cnt tw I io h tk, i < 7 → ColsAt tups vs fl cs i → (∀ p ∈ tups ++ news, p.1 ≠ l) → (∀ p ∈ tups, l < p.1) → @Ne Nat l I → (∀ p ∈ tups ++ news, p.1 ≠ I) →
      Fr h₀ env.locals h (fun y => if y = Str.ofString "column" then some (.int i t) else if y = Str.ofString "way" then some (.int (wS fl (cs.take i)) tw) else m₀ y) → News h₀ env.locals h ((I, io) :: (l, listOf (List.toArray vs) cnt) :: (tups ++ news)) →
      wpAny (model PG w) A (execs body env) (TurnQ h₀ env.locals I io (JJ l news m₀ fl cs (i + 1)) { s with heap := h, toks := tk } Q) E { s with heap := h, toks := tk })
    (done : ∀ tups vs cnt cv tw h tk, ColsAt tups vs fl cs 7 → (∀ p ∈ tups ++ news, p.1 ≠ l) → (∀ p ∈ tups, l < p.1) → (∀ p ∈ news, p.1 < l) → Fr h₀ env.locals h (fun y => if y = Str.ofString "column" then cv else if y = Str.ofString "way" then some (.int (wS fl (cs.take 7)) tw) else m₀ y) →
      News h₀ env.locals h ((l, listOf (List.toArray vs) cnt) :: (tups ++ news)) → Q .next { s with heap := h, toks := tk }) :
    wpAny (model PG w) A (pyIter (.ref r)) (fun it s₂ => LoopAtV PG w A h₀ env (Str.ofString "column") body Q E it s₂) E s := by
  obtain ⟨tw, hw⟩ := hway
  refine forRange (n := 7) (JJ l news m₀ fl cs) hh hr (by decide) (by decide) F N ?_ ?_ ?_
  · refine ⟨[], [], 0, m₀ (Str.ofString "column"), tw, rfl, ?_, ⟨rfl, fun k hk => absurd hk (Nat.not_lt_zero k)⟩, fun p hp => Nat.ne_of_lt (hl p hp), fun _ h => nomatch h⟩
    funext y
    by_cases h1 : y = Str.ofString "column"
    · rw [if_pos h1, h1]
    · rw [if_neg h1]
      by_cases h2 : y = Str.ofString "way"
      · rw [if_pos h2, h2, hw]; rfl
      · rw [if_neg h2]
  · rintro i t m₁ news₁ I io h tk hi ⟨tups, vs, cnt, cv, tw, rfl, rfl, hc, h1, h2⟩ hne F₁ N₁ _
    refine turn i t tups vs cnt tw I io h tk hi hc h1 h2 (hne _ (List.Mem.head _)) (fun p hp => hne p (List.mem_cons_of_mem _ hp)) ?_ N₁
    have e : (fun y => if y = Str.ofString "column" then some (Value.int (0 + i) t) else (fun y => if y = Str.ofString "column" then cv else if y = Str.ofString "way" then some (.int (wS fl (cs.take i)) tw) else m₀ y) y) =
        fun y => if y = Str.ofString "column" then some (Value.int i t) else if y = Str.ofString "way" then some (.int (wS fl (cs.take i)) tw) else m₀ y := by
      funext y
      by_cases h1 : y = Str.ofString "column"
      · simp only [if_pos h1, Int.zero_add]
      · simp only [if_neg h1]
    rw [e] at F₁
    exact F₁
  · rintro m₁ news₁ h tk ⟨tups, vs, cnt, cv, tw, rfl, rfl, hc, h1, h2⟩ F₁ N₁
    exact done tups vs cnt cv tw h tk hc h1 h2 hl F₁ N₁
end
theorem JJ_end {h₀ h' : Heap} {L I l D : Addr} {io : Obj} {tups news : List (Addr × Obj)} {vs : List Value} {cnt i tk' : Nat} {fl cs : List Nat} {m₀ m' : Str → Option Value} {s : Shared} {Q : Flow → Shared → Prop} {w' : Int} {ti tw tw' : Tok}
    (hi : i < cs.length) (hc : ColsAt tups vs fl cs i) (hd1 : ∀ p ∈ tups ++ news, p.1 ≠ l) (hd2 : ∀ p ∈ tups, l < p.1) (hd3 : @Ne Nat l I) (hd4 : ∀ p ∈ tups ++ news, p.1 ≠ I) (hD : I < D ∧ l < D ∧ AllLt D (tups ++ news))
    (F : Fr h₀ L h' m') (N : News h₀ L h' ((D, tup2 i ti (wS fl (cs.take i)) tw) :: (I, io) :: (l, listOf (vs.toArray.push (.ref D)) (cnt + 1)) :: (tups ++ news)))
    (hm1 : m' (Str.ofString "way") = some (.int w' tw')) (hm2 : ∀ y, y ≠ Str.ofString "column" → y ≠ Str.ofString "way" → m' y = m₀ y) (hw : w' = if fl.contains (cs.getD i 0) then -(wS fl (cs.take i)) else wS fl (cs.take i)) :
    TurnQ h₀ L I io (JJ l news m₀ fl cs (i + 1)) s Q .next { s with heap := h', toks := tk' } := by
  refine ⟨h', tk', m', (l, listOf (List.toArray (vs ++ [.ref D])) (cnt + 1)) :: (((D, tup2 i ti (wS fl (cs.take i)) tw) :: tups) ++ news), rfl, F, ?_, ?_, (D, tup2 i ti (wS fl (cs.take i)) tw) :: tups, vs ++ [.ref D], cnt + 1, m' (Str.ofString "column"), tw', rfl, ?_, hc.snoc, ?_, ?_⟩
  · intro p hp
    refine N p ?_
    have e : vs.toArray.push (Value.ref D) = List.toArray (vs ++ [.ref D]) := by simp
    rw [e]
    simp only [List.mem_cons, List.cons_append] at hp ⊢
    rcases hp with h | h | h | h
    · exact .inr (.inl h)
    · exact .inr (.inr (.inl h))
    · exact .inl h
    · exact .inr (.inr (.inr h))
  · intro p hp
    simp only [List.mem_cons, List.cons_append] at hp
    rcases hp with rfl | rfl | h
    · exact hd3
    · exact Nat.ne_of_gt hD.1
    · exact hd4 p h
  · rw [take_snoc hi, wS_snoc, ← hw]; exact map2 hm1 hm2
  · intro p hp
    simp only [List.mem_cons, List.cons_append] at hp
    rcases hp with rfl | h
    · exact Nat.ne_of_gt hD.2.1
    · exact hd1 p h
  · intro p hp
    rcases List.mem_cons.mp hp with rfl | h
    · exact hD.2.1
    · exact hd2 p h
def JudgeAt (w : World) (nx : List (Addr × Obj)) (x : Addr) (fl cs : List Nat) : Prop :=
  ∃ d l tups vs cnt tk, nx = (x, instObj 79 d) :: (d, dictOf [DictEntry.mk (PyData.keyHash w.params (Str.ofString "comp_select_list")) (.str (Str.ofString "comp_select_list") tk) (.ref l)] 1) :: (l, listOf (List.toArray vs) cnt) :: tups ∧ ColsAt tups vs fl cs 7
theorem news_rot {h₀ h : Heap} {L : Addr} {a b c : Addr × Obj} {t n : List (Addr × Obj)} (N : News h₀ L h (a :: b :: c :: (t ++ n))) : News h₀ L h (n ++ (a :: b :: c :: t)) := fun p hp => N p (by
  simp only [List.mem_append, List.mem_cons] at hp ⊢
  rcases hp with h | h | h | h | h
  · exact .inr (.inr (.inr (.inr h)))
  · exact .inl h
  · exact .inr (.inl h)
  · exact .inr (.inr (.inl h))
  · exact .inr (.inr (.inr (.inl h))))
theorem judge_ord {x d l : Addr} {o1 o2 o3 : Obj} {tups news : List (Addr × Obj)} (h1 : ∀ p ∈ news, p.1 < l) (h2 : ∀ p ∈ tups, l < p.1) (h3 : l < d ∧ AllLt d (tups ++ news)) (h4 : @LT.lt Nat _ d x) :
    ∀ q ∈ news, ∀ p ∈ (x, o1) :: (d, o2) :: (l, o3) :: tups, @LT.lt Nat _ q.1 p.1 := by
  intro q hq p hp
  have a1 := h1 q hq
  simp only [List.mem_cons] at hp
  rcases hp with rfl | rfl | rfl | h
  · exact Nat.lt_trans a1 (Nat.lt_trans h3.1 h4)
  · exact Nat.lt_trans a1 h3.1
  · exact a1
  · exact Nat.lt_trans a1 (h2 p h)
theorem judge_C {w : World} {mean : ExcName → Option Value} {mg mb : Str → Option Value} (news : List (Addr × Obj)) (b : Array UInt8) (fs : Str) (t t2 : Tok) :
  CL w mean mg mb 6 123 news (b.size = 7) [.bytes b t, .str fs t2] (fun h₀ L m s Q => ∀ x nx h' tk', JudgeAt w nx x fs.cps.toList (bN b) → (∀ q ∈ news, ∀ p ∈ nx, @LT.lt Nat _ q.1 p.1) → Fr h₀ L h' m → News h₀ L h' (news ++ nx) → Q (.ref x) { s with heap := h', toks := tk' }) := by
  dsimp only [CL]; intro dp un gd cn cs a ccd cl outer A₀ base h₀ L m s Q E B F X N T hcs hpre hdp hun hret
  refine wpAny_call ?_
  k_dflt cell_enter
  (repeat' (first | (k_unfold; (try dsimp only)) | (k_end; wrow_close) | ((fail_if_success (with_reducible show wpAny _ _ (pyIter _) _ _ _)); walk1) | (dsimp only; (fail_if_success (with_reducible show wpAny _ _ (pyIter _) _ _ _)); walk1)))
  refine' judge_loop fs.cps.toList (bN b) ?e1 ?e2 ?e3 ?e4 ?e5 ?e6 ?_ ?_
  (case e1 => rfl)
  (case e2 => k_asm)
  (case e3 => k_asm)
  (case e4 => k_asm)
  (case e5 => assumption)
  (case e6 => exact ⟨_, rfl⟩)
  · intro i ti tups vs cnt tw I io h1 tk1 hi hc hd1 hd2 hd3 hd4 F1 N1
    have hvl : vs.length < 7 := by have := hc.1; omega
    k_steps
    · exact JJ_end (by rw [bN_len, hpre]; exact hi) hc hd1 hd2 hd3 hd4 (by assumption) (by k_asm) (by k_asm) rfl (by intro y e1 e2; simp only [if_neg e1, if_neg e2]) (by rw [if_pos (by assumption)])
    · exact JJ_end (by rw [bN_len, hpre]; exact hi) hc hd1 hd2 hd3 hd4 (by assumption) (by k_asm) (by k_asm) rfl (by intro y e1 e2; simp only [if_neg e1, if_neg e2]) (by rw [if_neg (by simp_all)])
  · intro tups vs cnt cv tw h1 tk1 hc hd1 hd2 hd3 F1 N1
    k_steps
    exact hret _ _ _ _ ⟨_, _, _, _, _, _, rfl, hc⟩ (judge_ord hd3 hd2 (by assumption) (by assumption)) (by k_asm) (news_rot (by k_asm))
section
variable {prog : Program} {w : World} {A A₀ : Around} {E : Value → Shared → Prop} {s : Shared} {K : Frag} {C L : Addr} {h₀ base : Heap} {m mg mb : Str → Option Value} {own rest : List (Addr × Obj)} {p : Program} {loose : List Str} {mean : ExcName → Option Value} {Q : Value → Shared → Prop}
/-- what is kept through a call's own heap -/
def Kept (rest : List (Addr × Obj)) (g : Heap) : Prop := ∀ p ∈ rest, g.get? p.1 = some p.2
/-- a call that sees the part 'own' of the ledger alone; the rest stands still -/
theorem code_def2 {env : Env} {outer : List Env} {R : Result → Shared → Prop} {name qual : Str} {params : Arguments} {body : List Stmt} {scope : Scope} {dV kV doc pm cdv ct oc : Value} {an od : Option Addr} {osl : Array (Option Value)} {f : Addr} {args : Args} {binds : List (Str × Value)}
    (NR : News h₀ L s.heap rest) (hdis : ∀ p ∈ rest, p.1 ∉ own.map (·.1))
    (B : Below A₀ base outer h₀) (F : Fr h₀ L s.heap m) (X₀ : K.In h₀) (N : News h₀ L s.heap own) (T : Top p loose mean mg mb h₀) (hA : A.frames = some (env :: outer)) (hf : env.frame = some L) (hke : env.scope.kind = .function)
    (ho : K.lookup f = some ⟨oc, od, .func (fnOf name qual params body scope dV kV doc pm an cdv ct), osl⟩) (hcd : codeIn K cdv qual = true) (hroom : A.depth < recursionLimit)
    (hbind : BindsTo s (fnOf name qual params body scope dV kV doc pm an cdv ct) args binds) (hloc : ∀ y ∈ binds, scope.names.lookup y.1 = some .local)
    (h : ∀ g L' h₁, Kept rest g → (∀ p ∈ rest, @LT.lt Nat _ p.1 L') → Fr h₀ L g m → Fr g L' h₁ (fun y => binds.reverse.lookup y) → News g L' h₁ own → Below A base (env :: outer) g → K.In g → Top p loose mean mg mb g → (∀ p ∈ own, @LT.lt Nat _ p.1 L') →
      wpAny (model prog w) (A.deeper (envOf qual scope L' f cdv)) (execs body (envOf qual scope L' f cdv))
        (fun fl s' => LeaveK h₀ L m g R (match fl with | .ret v => v | _ => .none) s')
        (fun e s' => wpAny (model prog w) (A.deeper (envOf qual scope L' f cdv)) (leaving (envOf qual scope L' f cdv) e) (fun _ s'' => R (.error e) s'') (fun e' s'' => R (.error e') s'') s')
        { s with heap := h₁, toks := s.toks + binds.length })
    (hco : scope.isCoroutine = false) (hgen : scope.isGenerator = false) (hk : scope.kind = .function)
    (hcell : ∀ x ∈ scope.names, x.2 ≠ .cell) : codeAny (model prog w) A (.call (.ref f) args) R s := by
  obtain ⟨FG, BG, st, lv⟩ := groundX (R := R) B F N hA hf hke
  refine codeAny_call_def (fd := fnX name qual params body scope [] dV kV doc pm an cdv ct) (body := body) (binds := binds) hroom ((X₀.keeps F.keep) _ _ ho) rfl (T.nolimit.keeps F.keep) (codeRec_of (X₀.keeps F.keep) hcd) rfl hbind hcell hloc (fun h₁ hns hk₁ => ?_) hco hgen hk
  refine wpAny_mono (h _ s.heap.objs.size h₁ (fun p hp => hideAll_get _ (NR p hp).1 (hdis p hp)) (fun p hp => Heap.lt_size (NR p hp).1) FG ⟨hns, fun b o e => hk₁ b o (of_hideAll _ e), Nat.le_of_eq (hideAll_size _ _)⟩
    (fun p hp => ⟨hk₁ _ _ (N p hp).1, Nat.ne_of_lt (Heap.lt_size (N p hp).1), hideAll_none _ (List.mem_map_of_mem hp)⟩) BG (X₀.keeps st) (T.keeps st) (fun p hp => Heap.lt_size (N p hp).1)) (fun fl s' hl => lv _ _ hl) fun _ _ y => y
theorem code_defC2 {env : Env} {outer : List Env} {R : Result → Shared → Prop} {name qual : Str} {params : Arguments} {body : List Stmt} {scope : Scope} {dV kV doc pm cdv ct oc : Value} {an od : Option Addr} {osl : Array (Option Value)} {f : Addr} {args : Args} {binds : List (Str × Value)}
    (NR : News h₀ L s.heap rest) (hdis : ∀ p ∈ rest, p.1 ∉ own.map (·.1))
    (B : Below A₀ base outer h₀) (F : Fr h₀ L s.heap m) (X₀ : K.In h₀) (N : News h₀ L s.heap own) (T : Top p loose mean mg mb h₀) (hA : A.frames = some (env :: outer)) (hf : env.frame = some L) (hke : env.scope.kind = .function)
    (ho : K.lookup f = some ⟨oc, od, .func (fnOf name qual params body scope dV kV doc pm an cdv ct), osl⟩) (hcd : codeIn K cdv qual = true) (hroom : A.depth < recursionLimit)
    (hbind : BindsTo s (fnOf name qual params body scope dV kV doc pm an cdv ct) args binds) (hkind : (binds.all fun y => scope.names.lookup y.1 == some .local || scope.names.lookup y.1 == some .cell) = true)
    (hnd : ((cellsFrom 0 scope.names []).map (·.1)).Nodup)
    (h : ∀ g L' h₁ tk cells, Kept rest g → (∀ p ∈ rest, @LT.lt Nat _ p.1 L') → Fr h₀ L g m → Fr g L' h₁ (bindL (envOfC qual scope L' f cdv).kindOf binds fun _ => none) → News g L' h₁ (cells ++ own) →
      CellsAre (bindC (envOfC qual scope L' f cdv).kindOf binds fun _ => none) (cellsFrom (L' + 1) scope.names []) cells → Below A base (env :: outer) g → K.In g → Top p loose mean mg mb g → (∀ p ∈ own, p.1 < L') →
      wpAny (model prog w) (A.deeper (envOfC qual scope L' f cdv)) (execs body (envOfC qual scope L' f cdv))
        (fun fl s' => LeaveK h₀ L m g R (match fl with | .ret v => v | _ => .none) s')
        (fun e s' => wpAny (model prog w) (A.deeper (envOfC qual scope L' f cdv)) (leaving (envOfC qual scope L' f cdv) e) (fun _ s'' => R (.error e) s'') (fun e' s'' => R (.error e') s'') s')
        { s with heap := h₁, toks := tk })
    (hco : scope.isCoroutine = false) (hgen : scope.isGenerator = false) (hk : scope.kind = .function) : codeAny (model prog w) A (.call (.ref f) args) R s := by
  obtain ⟨FG, BG, st, lv⟩ := groundX (R := R) B F N hA hf hke
  refine codeAny_call_function hroom ((X₀.keeps F.keep) _ _ ho) rfl hco hgen rfl (codeRec_of (X₀.keeps F.keep) hcd) (hbind _ _ _ _ ?_)
  refine wpAny_newFunctionEnv_cells hk (kindsX hkind _) fun env' he s' x => ?_
  subst he
  refine ⟨(T.nolimit.keeps F.keep).keeps x.toInCall.keep, codeAny_func ?_⟩
  obtain ⟨h₁, tk, rfl, _⟩ := x.done
  have hk₁ := x.toInCall.keep
  obtain ⟨cells, NC, Y⟩ := Cl.news (h₀ := s.heap) (Nat.le_refl _) fun n c hm => ⟨x.cell n c (lookup_of_mem_nodup (cellsFrom_names scope.names 0 (s.heap.objs.size + 1) [] [] rfl ▸ hnd) hm), x.above n c hm⟩
  refine wpAny_mono (h _ s.heap.objs.size h₁ tk cells (fun p hp => hideAll_get _ (NR p hp).1 (hdis p hp)) (fun p hp => Heap.lt_size (NR p hp).1) FG ⟨x.toInCall.ns, fun b o e => hk₁ b o (of_hideAll _ e), Nat.le_of_eq (hideAll_size _ _)⟩ (fun p hp => ?_) Y BG (X₀.keeps st) (T.keeps st) (fun p hp => Heap.lt_size (N p hp).1)) (fun fl s' hl => lv _ _ hl) fun _ _ y => y
  rcases List.mem_append.mp hp with hp | hp
  · refine ⟨(NC p hp).1, (NC p hp).2.1, ?_⟩
    cases q : (hideAll s.heap (own.map (·.1))).get? p.1 with
    | none => rfl
    | some o => have := of_hideAll _ q; rw [(NC p hp).2.2] at this; cases this
  · exact ⟨hk₁ _ _ (N p hp).1, Nat.ne_of_lt (Heap.lt_size (N p hp).1), hideAll_none _ (List.mem_map_of_mem hp)⟩
theorem news_more {g h h₁ : Heap} {L' : Addr} {m' : Str → Option Value} {rest own' : List (Addr × Obj)} (K : Kept rest g) (F : Fr g L' h m') (NR : News h₀ L h₁ rest) (N : News h₀ L h own') : News h₀ L h (own' ++ rest) := fun p hp => by
  rcases List.mem_append.mp hp with hp | hp
  · exact N p hp
  · exact ⟨F.keep _ _ (K p hp), (NR p hp).2⟩
/-- the ledger without the entries at own's addresses -/
noncomputable def restOf (own news : List (Addr × Obj)) : List (Addr × Obj) := news.filter fun p => !(own.map (·.1)).contains p.1
theorem restOf_sub {own news : List (Addr × Obj)} : ∀ p ∈ restOf own news, p ∈ news := fun p hp => (List.mem_filter.mp hp).1
theorem restOf_dis {own news : List (Addr × Obj)} : ∀ p ∈ restOf own news, p.1 ∉ own.map (·.1) := fun p hp h => by
  have := (List.mem_filter.mp hp).2
  have h2 : (own.map (·.1)).contains p.1 = true := by simpa using h
  rw [h2] at this; cases this
/-- the whole ledger again, where the own part stands as it stood -/
theorem news_back {h h₁ : Heap} {own own' news : List (Addr × Obj)} (N₁ : News h₀ L h₁ news) (hsub : ∀ p ∈ own, p ∈ news) (hk : ∀ p ∈ own, p ∈ own') (N : News h₀ L h (own' ++ restOf own news)) : News h₀ L h (own' ++ news) := fun p hp => by
  rcases List.mem_append.mp hp with hp | hp
  · exact N p (List.mem_append_left _ hp)
  · by_cases hc : (own.map (·.1)).contains p.1 = true
    · obtain ⟨q, hq, e⟩ := List.mem_map.mp (by simpa using hc : p.1 ∈ own.map (·.1))
      have e2 : q = p := by
        have h1 := (N₁ q (hsub q hq)).1
        have h2 := (N₁ p hp).1
        rw [e, h2] at h1
        have e3 := Option.some.inj h1
        cases p; cases q; simp at e e3; rw [e, e3]
      exact N p (List.mem_append_left _ (hk p (e2 ▸ hq)))
    · exact N p (List.mem_append_right _ (List.mem_filter.mpr ⟨hp, by simpa using hc⟩))
theorem news_sub {h : Heap} {own news : List (Addr × Obj)} (N : News h₀ L h news) (hs : ∀ p ∈ own, p ∈ news) : News h₀ L h own := fun p hp => N p (hs p hp)
end
local macro_rules | `(tactic| walk_at "exec For Tuple Attribute cons nil") => `(tactic| (k_here; (rename Fr _ _ _ _ => lF'); (with_unfolding_all refine' For_turns lF' ?_; k_whole)))
section
variable {w : World} {A : Around} {E : Value → Shared → Prop} {s : Shared} {env : Env} {h₀ : Heap} {body : List Stmt} {Q : Flow → Shared → Prop}
/-- a turn's end, where the body may give back a value -/
def TurnR (h₀ : Heap) (L I : Addr) (io : Obj) (news : List (Addr × Obj)) (J : (Str → Option Value) → Prop) (s₁ : Shared) (Q : Flow → Shared → Prop) (f : Flow) (s₂ : Shared) : Prop :=
  match f with
  | .ret v => Q (.ret v) s₂
  | .brk => Q .next s₂
  | _ => ∃ h' tk m', s₂ = { s₁ with heap := h', toks := tk } ∧ Fr h₀ L h' m' ∧ News h₀ L h' ((I, io) :: news) ∧ J m'
/-- a loop over a list of tuples that stands in the ledger; the ledger stands still -/
theorem forTup {elts : List Expr} {kk : Nat} {tp : Pos} {l : Addr} {its : Array Value} {c : Nat} {m₀ : Str → Option Value} {news : List (Addr × Obj)} (J : Nat → (Str → Option Value) → Prop)
    (hh : A.handled = none) (hm : (l, ({ cls := .type "list", data := .seq its c } : Obj)) ∈ news) (hT : ∀ (i : Nat) (v : Value), its[i]? = some v → ∃ T : Addr, v = Value.ref T) (F : Fr h₀ env.locals s.heap m₀) (N : News h₀ env.locals s.heap news) (hj : J 0 m₀)
    (turn : ∀ (i : Nat) v m₁ I io h tk, its[i]? = some v → J i m₁ → (∀ p ∈ news, @Ne Nat p.1 I) → Fr h₀ env.locals h m₁ → News h₀ env.locals h ((I, io) :: news) →
      wpAny (model PG w) A (assign (.Tuple elts kk tp) env v) (fun _ s₃ => wpAny (model PG w) A (execs body env) (TurnR h₀ env.locals I io news (J (i + 1)) { s with heap := h, toks := tk } Q) E s₃) E { s with heap := h, toks := tk })
    (done : ∀ m₁ h tk, J its.size m₁ → Fr h₀ env.locals h m₁ → News h₀ env.locals h news → Q .next { s with heap := h, toks := tk }) :
    wpAny (model PG w) A (pyIter (.ref l)) (fun it s₂ => TurnsAt PG w A h₀ env (.Tuple elts kk tp) body Q E it s₂) E s := by
  have hl : s.heap.IsList l its := ⟨_, (N _ hm).1, rfl, _, rfl⟩
  have hlt : l < s.heap.objs.size := Heap.lt_size (N _ hm).1
  refine wpAny_pyIter_list hl ?_
  have up : ∀ b o, s.heap.get? b = some o → (s.heap.push { cls := .type "list_iterator", data := .fields #[.ref l, .int 0 0] }).get? b = some o := fun b o e => Heap.get?_push_of_some _ e
  have hIn : ∀ p ∈ news, @Ne Nat p.1 s.heap.objs.size := fun p hp => Nat.ne_of_lt (Heap.lt_size (N p hp).1)
  have WL := Walks.list (prog := PG) (w := w) (A := A) hh s.heap.objs.size l (Nat.ne_of_lt hlt) its
  refine ⟨s.heap.objs.size, [s.heap.objs.size, l], [s.heap.objs.size], its.size, fun i v _ => its[i]? = some v, fun i v h => its[i]? = some v ∧ h.IsListIter s.heap.objs.size l (i + 1) ∧ h.IsList l its, fun i h => h.IsListIter s.heap.objs.size l i ∧ h.IsList l its, m₀, news, fun i m nw => nw = news ∧ J i m, rfl, ?_, ?_, ?_, ?_, ?_, F.keeps up, N.grown up, ⟨rfl, hj⟩, ?_, ?_⟩
  · exact { sub := WL.sub, frame := WL.frame, item := fun i s' Q' E' hi st hQ => WL.item i s' Q' E' hi st fun v h' tk hP st' hk => hQ v h' tk ⟨hP, st'⟩ hk, go := fun i v s' Q' E' hmd hQ => by
              obtain ⟨T, rfl⟩ := hT i v hmd.1
              exact wpAny_letOwnedTupleGo_listiter hmd.2.1 (hQ s'.heap hmd.1 hmd.2 fun _ _ _ e => e), done := WL.done }
  · intro hL
    have hL2 := F.ns.lt
    rcases List.mem_cons.mp hL with e | hL
    · rw [e] at hL2; exact Nat.lt_irrefl _ hL2
    · rw [List.mem_singleton] at hL
      exact (N _ hm).2.1 hL.symm
  · intro b hb
    rw [List.mem_singleton.mp hb]; exact next_is_new F
  · intro p hp hc
    exact hIn p hp (List.mem_singleton.mp hc)
  · exact ⟨⟨{ cls := .type "list_iterator", data := .fields #[.ref l, .int 0 0] }, Heap.get?_push_size _ rfl, rfl, rfl⟩, hl.at fun o e => up _ _ e⟩
  · rintro i v m₁ nw h₁ tk₁ own hi hP ⟨rfl, hJ⟩ hoff hown hget hin hst F₁ N₁
    obtain ⟨io, hio⟩ : ∃ o, h₁.get? s.heap.objs.size = some o := by obtain ⟨o, e, _⟩ := hst.1; exact ⟨o, e⟩
    have hmI := hin s.heap.objs.size (by simp) (next_is_new F) io hio
    refine wpAny_mono (turn i v m₁ s.heap.objs.size io h₁ tk₁ hP hJ hIn F₁ (fun p hp => N₁ p ?_)) (fun _ s₂ h2 => wpAny_mono h2 (fun f s₃ hp => ?_) fun _ _ e => e) fun _ _ e => e
    · rcases List.mem_cons.mp hp with rfl | h
      · exact List.mem_append_left _ hmI
      · exact List.mem_append_right _ h
    have fin : ∀ s₃, (∃ h' tk m', s₃ = { ({ s with heap := h₁, toks := tk₁ } : Shared) with heap := h', toks := tk } ∧ Fr h₀ env.locals h' m' ∧ News h₀ env.locals h' ((s.heap.objs.size, io) :: nw) ∧ J (i + 1) m') →
        LoopStepU h₀ env.locals [s.heap.objs.size] own (fun m n => n = nw ∧ J (i + 1) m) { s with heap := h₁, toks := tk₁ } .next s₃ := by
      rintro s₃ ⟨h', tk, m', e, F', N', hj'⟩
      refine ⟨rfl, h', tk, m', nw, e, F', fun p hp => ?_, fun p hp hc => hIn p hp (List.mem_singleton.mp hc), rfl, hj'⟩
      rcases List.mem_append.mp hp with h | h
      · have e2 := hget p h
        rcases List.mem_cons.mp (hown p h) with e1 | e1
        · rw [e1, hio] at e2
          have : p = (s.heap.objs.size, io) := by rw [← e1, Option.some.inj e2]
          rw [this]; exact N' _ List.mem_cons_self
        · have e1 := List.mem_singleton.mp e1
          have e3 := (N₁ _ (List.mem_append_right _ hm)).1
          rw [e1] at e2
          have this : p = (l, ({ cls := .type "list", data := .seq its c } : Obj)) := Prod.ext e1 (Option.some.inj (e2.symm.trans e3))
          rw [this]
          exact N' _ (List.mem_cons_of_mem _ hm)
      · exact N' p (List.mem_cons_of_mem _ h)
    cases f with
    | ret v => exact .ret hp
    | brk => exact .brk hp
    | next => exact .next (fin _ hp)
    | cont => exact .cont (fin _ hp)
  · rintro h' tk m' nw F' N' _ ⟨rfl, hJ⟩
    exact done m' h' tk hJ F' N'
end
theorem fr_at {h₀ h : Heap} {L : Addr} {m : Str → Option Value} {x : Str} {v : Option Value} (F : Fr h₀ L h m) (e : m x = v) : Fr h₀ L h (fun y => if y = x then v else m y) := by
  have h1 : (fun y => if y = x then v else m y) = m := by
    funext y
    by_cases hy : y = x
    · rw [if_pos hy, hy, e]
    · rw [if_neg hy]
  rw [h1]; exact F
theorem at_fr {m : Str → Option Value} {x : Str} {v : Option Value} (e : m x = v) (y : Str) : (if y = x then v else m y) = m y := by
  by_cases hy : y = x
  · rw [if_pos hy, hy, e]
  · rw [if_neg hy]
/-- what a comparison tells: at the first column where two rows part -/
noncomputable def cmpB (fl cs : List Nat) (a b : Array UInt8) : List Int → Int
  | [] => 0
  | k :: r => if bA a k < bA b k then -(wS fl (cs.take k.toNat)) else if bA b k < bA a k then wS fl (cs.take k.toNat) else cmpB fl cs a b r
theorem seven {α : Type} {l : List α} (h : l.length = 7) : ∃ a0 a1 a2 a3 a4 a5 a6, l = [a0, a1, a2, a3, a4, a5, a6] := by
  match l, h with
  | [a0, a1, a2, a3, a4, a5, a6], _ => exact ⟨a0, a1, a2, a3, a4, a5, a6, rfl⟩
abbrev judgeDict (w : World) (tk : Tok) (l : Addr) : Obj := dictOf [DictEntry.mk (PyData.keyHash w.params (Str.ofString "comp_select_list")) (.str (Str.ofString "comp_select_list") tk) (.ref l)] 1
theorem judge_open {C : Prop} {w : World} {nx : List (Addr × Obj)} {x : Addr} {fl cs : List Nat} (J : JudgeAt w nx x fl cs)
    (k : ∀ d l tk cnt a0 a1 a2 a3 a4 a5 a6 t0 t1 t2 t3 t4 t5 t6 u0 u1 u2 u3 u4 u5 u6, (∀ p ∈ [(x, instObj 79 d), (d, judgeDict w tk l), (l, listOf #[.ref a0, .ref a1, .ref a2, .ref a3, .ref a4, .ref a5, .ref a6] cnt),
      (a0, tup2 0 t0 (wS fl (cs.take 0)) u0), (a1, tup2 1 t1 (wS fl (cs.take 1)) u1), (a2, tup2 2 t2 (wS fl (cs.take 2)) u2), (a3, tup2 3 t3 (wS fl (cs.take 3)) u3), (a4, tup2 4 t4 (wS fl (cs.take 4)) u4), (a5, tup2 5 t5 (wS fl (cs.take 5)) u5), (a6, tup2 6 t6 (wS fl (cs.take 6)) u6)], p ∈ nx) → C) : C := by
  obtain ⟨d, l, tups, vs, cnt, tk, rfl, hl, hc⟩ := J
  obtain ⟨v0, v1, v2, v3, v4, v5, v6, rfl⟩ := seven hl
  obtain ⟨a0, t0, u0, e0, m0⟩ := hc 0 (by decide)
  obtain ⟨a1, t1, u1, e1, m1⟩ := hc 1 (by decide)
  obtain ⟨a2, t2, u2, e2, m2⟩ := hc 2 (by decide)
  obtain ⟨a3, t3, u3, e3, m3⟩ := hc 3 (by decide)
  obtain ⟨a4, t4, u4, e4, m4⟩ := hc 4 (by decide)
  obtain ⟨a5, t5, u5, e5, m5⟩ := hc 5 (by decide)
  obtain ⟨a6, t6, u6, e6, m6⟩ := hc 6 (by decide)
  cases e0; cases e1; cases e2; cases e3; cases e4; cases e5; cases e6
  refine k d l tk cnt a0 a1 a2 a3 a4 a5 a6 t0 t1 t2 t3 t4 t5 t6 u0 u1 u2 u3 u4 u5 u6 (List.forall_mem_cons.mpr ⟨.head _, List.forall_mem_cons.mpr ⟨.tail _ (.head _), List.forall_mem_cons.mpr ⟨.tail _ (.tail _ (.head _)), fun p hp => .tail _ (.tail _ (.tail _ ?_))⟩⟩⟩)
  revert p
  exact List.forall_mem_cons.mpr ⟨m0, List.forall_mem_cons.mpr ⟨m1, List.forall_mem_cons.mpr ⟨m2, List.forall_mem_cons.mpr ⟨m3, List.forall_mem_cons.mpr ⟨m4, List.forall_mem_cons.mpr ⟨m5, List.forall_mem_cons.mpr ⟨m6, fun _ h => nomatch h⟩⟩⟩⟩⟩⟩⟩
theorem call_fin {h₀ g h h₁ : Heap} {L L' : Addr} {m m' : Str → Option Value} {own own' news : List (Addr × Obj)} {V r : Int} {s : Shared} {Q : Value → Shared → Prop} {t : Tok} {tk' : Nat}
    (hret : ∀ t h' tk', Fr h₀ L h' m → News h₀ L h' news → Q (.int V t) { s with heap := h', toks := tk' }) (KP : Kept (restOf own news) g) (N₁ : News h₀ L h₁ news) (hsub : ∀ p ∈ own, p ∈ news)
    (F' : Fr g L' h m') (kF : Fr h₀ L h m) (kN : News h₀ L h own') (hk : ∀ p ∈ own, p ∈ own') (e : V = r) : Q (.int r t) { s with heap := h, toks := tk' } := by
  subst e
  have N2 := news_back N₁ hsub hk (news_more KP F' (news_sub N₁ restOf_sub) kN)
  exact hret t h tk' kF (news_sub N2 fun p hp => List.mem_append_right _ hp)
noncomputable def fromC (i : Nat) : List Int := (List.range' i (7 - i)).map fun (n : Nat) => (n : Int)
theorem fromC_step {i : Nat} (h : i < 7) : fromC i = (i : Int) :: fromC (i + 1) := by
  unfold fromC
  rw [show 7 - i = (7 - (i + 1)) + 1 by omega, List.range'_succ]; rfl
theorem tup_at7 {fl cs : List Nat} {own : List (Addr × Obj)} {a0 a1 a2 a3 a4 a5 a6 : Addr} {t0 t1 t2 t3 t4 t5 t6 u0 u1 u2 u3 u4 u5 u6 : Tok} {i : Nat} {v : Value}
    (h : ∀ p ∈ [(a0, tup2 0 t0 (wS fl (cs.take 0)) u0), (a1, tup2 1 t1 (wS fl (cs.take 1)) u1), (a2, tup2 2 t2 (wS fl (cs.take 2)) u2), (a3, tup2 3 t3 (wS fl (cs.take 3)) u3), (a4, tup2 4 t4 (wS fl (cs.take 4)) u4), (a5, tup2 5 t5 (wS fl (cs.take 5)) u5), (a6, tup2 6 t6 (wS fl (cs.take 6)) u6)], p ∈ own)
    (hv : #[Value.ref a0, .ref a1, .ref a2, .ref a3, .ref a4, .ref a5, .ref a6][i]? = some v) : i < 7 ∧ ∃ a t u, v = .ref a ∧ (a, tup2 (i : Nat) t (wS fl (cs.take i)) u) ∈ own := by
  rcases i with _ | _ | _ | _ | _ | _ | _ | i
  · cases hv; exact ⟨by decide, _, _, _, rfl, h _ (.head _)⟩
  · cases hv; exact ⟨by decide, _, _, _, rfl, h _ (.tail _ (.head _))⟩
  · cases hv; exact ⟨by decide, _, _, _, rfl, h _ (.tail _ (.tail _ (.head _)))⟩
  · cases hv; exact ⟨by decide, _, _, _, rfl, h _ (.tail _ (.tail _ (.tail _ (.head _))))⟩
  · cases hv; exact ⟨by decide, _, _, _, rfl, h _ (.tail _ (.tail _ (.tail _ (.tail _ (.head _)))))⟩
  · cases hv; exact ⟨by decide, _, _, _, rfl, h _ (.tail _ (.tail _ (.tail _ (.tail _ (.tail _ (.head _))))))⟩
  · cases hv; exact ⟨by decide, _, _, _, rfl, h _ (.tail _ (.tail _ (.tail _ (.tail _ (.tail _ (.tail _ (.head _)))))))⟩
  · simp at hv
theorem comp_C {w : World} {mean : ExcName → Option Value} {mg mb : Str → Option Value} (news nx : List (Addr × Obj)) (x : Addr) (fl ro : List Nat) (ra rb : Array UInt8) (t t2 : Tok) :
  CL w mean mg mb 6 76 news (JudgeAt w nx x fl ro ∧ (∀ p ∈ nx, p ∈ news) ∧ ra.size = 7 ∧ rb.size = 7) [.ref x, .bytes ra t, .bytes rb t2] (RetV news fun t => .int (cmpB fl ro ra rb [0, 1, 2, 3, 4, 5, 6]) t) := by
  dsimp only [CL]; intro dp un gd cn cs a ccd cl outer A₀ base h₀ L m s Q E B F X N T hcs hpre hdp hun hret
  obtain ⟨J, hsub, ha, hb⟩ := hpre
  refine judge_open J ?_
  intro d l tk cnt a0 a1 a2 a3 a4 a5 a6 y0 y1 y2 y3 y4 y5 y6 u0 u1 u2 u3 u4 u5 u6 hO
  refine wpAny_call ?_
  have NO := news_sub N (fun p hp => hsub p (hO p hp))
  k_dflt (refine' code_def2 (news_sub N restOf_sub) restOf_dis ?k1 ?k2 ?k3 NO ?k5 ?kA ?kF ?kK ?k6 ?k7 ?k8 ?k9 ?kB ?_ ?c2 ?c3 ?c4 ?c5)
  (case kA => exact rfl)
  (case kF => exact rfl)
  (case kK => first | exact rfl | assumption)
  (case k1 => k_asm)
  (case k2 => k_asm)
  (case k3 => k_asm)
  (case k5 => k_asm)
  (case k6 => k_dflt k_is)
  (case k7 => k_dflt k_is)
  (case k8 => ktr_room)
  (case k9 => exact BindsTo.of_eq rfl)
  (case c5 => decide)
  (case kB => exact locs rfl)
  (case c2 => exact rfl)
  (case c3 => exact rfl)
  (case c4 => exact rfl)
  intro g' L' h' KP hRL FG' F' N' B' X' T' hOL
  k_lt hOL
  try dsimp only
  k_lift B'
  try k_fold
  (repeat' (first | (k_unfold; (try dsimp only)) | (k_end; wrow_close) | ((fail_if_success (with_reducible show wpAny _ _ (pyIter _) _ _ _)); walk1) | (dsimp only; (fail_if_success (with_reducible show wpAny _ _ (pyIter _) _ _ _)); walk1)))
  refine' forTup (l := l) (its := #[.ref a0, .ref a1, .ref a2, .ref a3, .ref a4, .ref a5, .ref a6]) (c := cnt) (fun i m => m (Str.ofString "left") = some (.bytes ra t) ∧ m (Str.ofString "right") = some (.bytes rb t2) ∧ cmpB fl ro ra rb [0, 1, 2, 3, 4, 5, 6] = cmpB fl ro ra rb (fromC i)) ?e1 ?e2 ?e3 ?e4 ?e5 ?e6 ?_ ?_
  (case e1 => rfl)
  (case e3 =>
    intro i v hv
    obtain ⟨_, a, _, _, rfl, _⟩ := tup_at7 (fl := fl) (cs := ro) (t0 := y0) (t1 := y1) (t2 := y2) (t3 := y3) (t4 := y4) (t5 := y5) (t6 := y6) (u0 := u0) (u1 := u1) (u2 := u2) (u3 := u3) (u4 := u4) (u5 := u5) (u6 := u6) (fun _ h => h) hv
    exact ⟨a, rfl⟩)
  (case e4 => k_asm)
  (case e5 => k_asm)
  (case e2 => exact List.mem_cons_of_mem _ (List.mem_cons_of_mem _ List.mem_cons_self))
  (case e6 => exact ⟨rfl, rfl, rfl⟩)
  · rintro i v m₁ I io h1 tk1 hv ⟨hl, hr, hc⟩ hne F1 N1
    obtain ⟨hi, a, ta, ua, rfl, hm⟩ := tup_at7 (fl := fl) (cs := ro) (fun p h => List.mem_cons_of_mem (x, instObj 79 d) (List.mem_cons_of_mem (d, judgeDict w tk l) (List.mem_cons_of_mem (l, listOf #[.ref a0, .ref a1, .ref a2, .ref a3, .ref a4, .ref a5, .ref a6] cnt) h))) hv
    have F2 := fr_at (fr_at F1 hl) (x := Str.ofString "right") ((if_neg (by decide)).trans hr)
    have N2 := news_sub (own := (a, tup2 i ta (wS fl (ro.take i)) ua) :: (I, io) :: _) N1 (List.forall_mem_cons.mpr ⟨List.mem_cons_of_mem _ hm, fun p hp => hp⟩)
    clear F1 N1
    k_steps
    · dsimp only [TurnR]
      k_steps
      refine call_fin hret KP N (fun p hp => hsub p (hO p hp)) (by k_asm) (by k_asm) (by k_asm) (fun p hp => List.mem_cons_of_mem _ (List.mem_cons_of_mem _ hp)) ?_
      rw [hc, fromC_step hi, cmpB, if_pos (by assumption), Int.toNat_natCast]
    · dsimp only [TurnR]
      k_steps
      refine call_fin hret KP N (fun p hp => hsub p (hO p hp)) (by k_asm) (by k_asm) (by k_asm) (fun p hp => List.mem_cons_of_mem _ (List.mem_cons_of_mem _ hp)) ?_
      rw [hc, fromC_step hi, cmpB, if_neg (by assumption), if_pos (by assumption), Int.toNat_natCast]
    · (with_reducible rename Fr _ _ _ _ => F9)
      (with_reducible rename News _ _ _ _ => N9)
      refine ⟨_, _, _, rfl, F9, fun p hp => N9 p (List.mem_cons_of_mem _ hp), rfl, rfl, ?_⟩
      rw [hc, fromC_step hi, cmpB, if_neg (by assumption), if_neg (by assumption)]
  · rintro m₁ h1 tk1 ⟨hl, hr, hc⟩ F1 N1
    k_steps
    refine call_fin hret KP N (fun p hp => hsub p (hO p hp)) (by k_asm) (by k_asm) (by k_asm) (fun p hp => hp) ?_
    rw [hc]; rfl
abbrev ledJ (w : World) (x d l : Addr) (tk : Tok) (cnt : Nat) (a0 a1 a2 a3 a4 a5 a6 : Addr) (t0 t1 t2 t3 t4 t5 t6 u0 u1 u2 u3 u4 u5 u6 : Tok) (fl cs : List Nat) : List (Addr × Obj) :=
  [(x, instObj 79 d), (d, judgeDict w tk l), (l, listOf #[.ref a0, .ref a1, .ref a2, .ref a3, .ref a4, .ref a5, .ref a6] cnt),
   (a0, tup2 0 t0 (wS fl (cs.take 0)) u0), (a1, tup2 1 t1 (wS fl (cs.take 1)) u1), (a2, tup2 2 t2 (wS fl (cs.take 2)) u2), (a3, tup2 3 t3 (wS fl (cs.take 3)) u3), (a4, tup2 4 t4 (wS fl (cs.take 4)) u4), (a5, tup2 5 t5 (wS fl (cs.take 5)) u5), (a6, tup2 6 t6 (wS fl (cs.take 6)) u6)]
theorem judgeAt_led {w : World} {x d l : Addr} {tk : Tok} {cnt : Nat} {a0 a1 a2 a3 a4 a5 a6 : Addr} {t0 t1 t2 t3 t4 t5 t6 u0 u1 u2 u3 u4 u5 u6 : Tok} {fl cs : List Nat} :
    JudgeAt w (ledJ w x d l tk cnt a0 a1 a2 a3 a4 a5 a6 t0 t1 t2 t3 t4 t5 t6 u0 u1 u2 u3 u4 u5 u6 fl cs) x fl cs := by
  refine ⟨d, l, _, [.ref a0, .ref a1, .ref a2, .ref a3, .ref a4, .ref a5, .ref a6], cnt, tk, rfl, rfl, fun k hk => ?_⟩
  have : k = 0 ∨ k = 1 ∨ k = 2 ∨ k = 3 ∨ k = 4 ∨ k = 5 ∨ k = 6 := by omega
  rcases this with rfl | rfl | rfl | rfl | rfl | rfl | rfl
  · exact ⟨a0, t0, u0, rfl, .head _⟩
  · exact ⟨a1, t1, u1, rfl, .tail _ (.head _)⟩
  · exact ⟨a2, t2, u2, rfl, .tail _ (.tail _ (.head _))⟩
  · exact ⟨a3, t3, u3, rfl, .tail _ (.tail _ (.tail _ (.head _)))⟩
  · exact ⟨a4, t4, u4, rfl, .tail _ (.tail _ (.tail _ (.tail _ (.head _))))⟩
  · exact ⟨a5, t5, u5, rfl, .tail _ (.tail _ (.tail _ (.tail _ (.tail _ (.head _)))))⟩
  · exact ⟨a6, t6, u6, rfl, .tail _ (.tail _ (.tail _ (.tail _ (.tail _ (.tail _ (.head _))))))⟩
theorem judge_C2 {w : World} {mean : ExcName → Option Value} {mg mb : Str → Option Value} (news : List (Addr × Obj)) (b : Array UInt8) (fs : Str) (t t2 : Tok) :
  CL w mean mg mb 6 123 news (b.size = 7) [.bytes b t, .str fs t2] (fun h₀ L m s Q => ∀ x d l tk cnt a0 a1 a2 a3 a4 a5 a6 t0 t1 t2 t3 t4 t5 t6 u0 u1 u2 u3 u4 u5 u6 h' tk',
    (∀ q ∈ news, ∀ p ∈ ledJ w x d l tk cnt a0 a1 a2 a3 a4 a5 a6 t0 t1 t2 t3 t4 t5 t6 u0 u1 u2 u3 u4 u5 u6 fs.cps.toList (bN b), @LT.lt Nat _ q.1 p.1) → Fr h₀ L h' m →
    News h₀ L h' (news ++ ledJ w x d l tk cnt a0 a1 a2 a3 a4 a5 a6 t0 t1 t2 t3 t4 t5 t6 u0 u1 u2 u3 u4 u5 u6 fs.cps.toList (bN b)) → Q (.ref x) { s with heap := h', toks := tk' }) := by
  intro dp un gd cn cs a ccd cl outer A₀ base h₀ L m s Q E B F X N T hcs hpre hdp hun hret
  refine judge_C news b fs t t2 dp un gd cn cs a ccd cl outer A₀ base h₀ L m s Q E B F X N T hcs hpre hdp hun ?_
  intro x nx h' tk' J ho F' N'
  refine judge_open J ?_
  intro d l tk cnt a0 a1 a2 a3 a4 a5 a6 t0 t1 t2 t3 t4 t5 t6 u0 u1 u2 u3 u4 u5 u6 hO
  refine hret x d l tk cnt a0 a1 a2 a3 a4 a5 a6 t0 t1 t2 t3 t4 t5 t6 u0 u1 u2 u3 u4 u5 u6 h' tk' (fun q hq p hp => ho q hq p (hO p hp)) F' fun p hp => N' p ?_
  rcases List.mem_append.mp hp with h | h
  · exact List.mem_append_left _ h
  · exact List.mem_append_right _ (hO p h)
theorem ledJ_lt {w : World} {x d l : Addr} {tk : Tok} {cnt : Nat} {a0 a1 a2 a3 a4 a5 a6 : Addr} {t0 t1 t2 t3 t4 t5 t6 u0 u1 u2 u3 u4 u5 u6 : Tok} {fl cs : List Nat} {q : Nat}
    (h : ∀ p ∈ ledJ w x d l tk cnt a0 a1 a2 a3 a4 a5 a6 t0 t1 t2 t3 t4 t5 t6 u0 u1 u2 u3 u4 u5 u6 fl cs, @LT.lt Nat _ q p.1) :
    @LT.lt Nat _ q x ∧ @LT.lt Nat _ q d ∧ @LT.lt Nat _ q l ∧ @LT.lt Nat _ q a0 ∧ @LT.lt Nat _ q a1 ∧ @LT.lt Nat _ q a2 ∧ @LT.lt Nat _ q a3 ∧ @LT.lt Nat _ q a4 ∧ @LT.lt Nat _ q a5 ∧ @LT.lt Nat _ q a6 := by
  simpa only [ledJ, List.forall_mem_cons, List.not_mem_nil, false_implies, implies_true, and_true] using h
theorem comp_C2 {w : World} {mean : ExcName → Option Value} {mg mb : Str → Option Value} (news : List (Addr × Obj)) (x : Addr) (fl ro : List Nat) (ra rb : Array UInt8) (t t2 : Tok) {d l : Addr} {tk : Tok} {cnt : Nat} {a0 a1 a2 a3 a4 a5 a6 : Addr} {t0 t1 t2' t3 t4 t5 t6 u0 u1 u2 u3 u4 u5 u6 : Tok}
  (m0 : (x, instObj 79 d) ∈ news) (m1 : (d, judgeDict w tk l) ∈ news) (m2 : (l, listOf #[.ref a0, .ref a1, .ref a2, .ref a3, .ref a4, .ref a5, .ref a6] cnt) ∈ news)
  (n0 : (a0, tup2 0 t0 (wS fl (ro.take 0)) u0) ∈ news) (n1 : (a1, tup2 1 t1 (wS fl (ro.take 1)) u1) ∈ news) (n2 : (a2, tup2 2 t2' (wS fl (ro.take 2)) u2) ∈ news) (n3 : (a3, tup2 3 t3 (wS fl (ro.take 3)) u3) ∈ news) (n4 : (a4, tup2 4 t4 (wS fl (ro.take 4)) u4) ∈ news) (n5 : (a5, tup2 5 t5 (wS fl (ro.take 5)) u5) ∈ news) (n6 : (a6, tup2 6 t6 (wS fl (ro.take 6)) u6) ∈ news) :
  CL w mean mg mb 6 76 news (ra.size = 7 ∧ rb.size = 7) [.ref x, .bytes ra t, .bytes rb t2] (RetV news fun t => .int (cmpB fl ro ra rb [0, 1, 2, 3, 4, 5, 6]) t) := by
  intro dp un gd cn cs a ccd cl outer A₀ base h₀ L m s Q E B F X N T hcs hpre hdp hun hret
  refine comp_C news (ledJ w x d l tk cnt a0 a1 a2 a3 a4 a5 a6 t0 t1 t2' t3 t4 t5 t6 u0 u1 u2 u3 u4 u5 u6 fl ro) x fl ro ra rb t t2 dp un gd cn cs a ccd cl outer A₀ base h₀ L m s Q E B F X N T hcs ⟨judgeAt_led, ?_, hpre.1, hpre.2⟩ hdp hun hret
  intro p hp
  simp only [ledJ, List.mem_cons, List.not_mem_nil, or_false] at hp
  rcases hp with rfl | rfl | rfl | rfl | rfl | rfl | rfl | rfl | rfl | rfl <;> assumption
local macro_rules | `(tactic| walk_at "call ref") => `(tactic| (k_here; (with_reducible show wpAny _ _ (call (Value.ref 123) [Value.bytes _ _, Value.str _ _]) _ _ _); k_dflt (refine' judge_C2 _ _ _ _ _ _ _ _ _ _ _ _ _ _ _ _ _ _ _ _ _ _ ?cB ?cF ?cX ?cN ?cT ?cK ?cP ?cD ?cU ?_; ((((case cB => k_asm); (case cF => k_asm); (case cX => k_asm); (case cN => k_asm); (case cT => k_asm); (case cK => first | exact rfl | assumption); (case cD => ktr_room); (case cU => ktr_units)))); (case cP => first | assumption | omega); intro x9 d9 l9 tk9 cnt9 a0 a1 a2 a3 a4 a5 a6 t0 t1 t2 t3 t4 t5 t6 u0 u1 u2 u3 u4 u5 u6 h9 tk9' ho9 F9 N9; (replace ho9 := ledJ_lt (ho9 _ (List.Mem.head _))); (simp only [ledJ, List.cons_append, List.nil_append] at N9); (try dsimp only))))
local macro_rules | `(tactic| walk_at "call ref") => `(tactic| (k_here; (with_reducible show wpAny _ _ (call (Value.ref 76) [Value.ref _, Value.bytes _ _, Value.bytes _ _]) _ _ _); k_dflt (refine' comp_C2 _ _ _ _ _ _ _ _ ?cm0 ?cm1 ?cm2 ?cm3 ?cm4 ?cm5 ?cm6 ?cm7 ?cm8 ?cm9 _ _ _ _ _ _ _ _ _ _ _ _ _ _ _ _ _ ?cB ?cF ?cX ?cN ?cT ?cK ?cP ?cD ?cU ?_; ((((case cB => k_asm); (case cF => k_asm); (case cX => k_asm); (case cN => k_asm); (case cT => k_asm); (case cK => first | exact rfl | assumption); (case cD => ktr_room); (case cU => ktr_units)))); (case cm0 => k_mem); (case cm1 => k_mem); (case cm2 => k_mem); (case cm3 => k_mem); (case cm4 => k_mem); (case cm5 => k_mem); (case cm6 => k_mem); (case cm7 => k_mem); (case cm8 => k_mem); (case cm9 => k_mem); (case cP => exact ⟨by assumption, by assumption⟩); intro t9 h9 tk9 F9 N9; (try dsimp only))))
section
variable {w : World} {A : Around} {E : Value → Shared → Prop} {Q : Flow → Shared → Prop} {s : Shared} {env : Env} {h₀ : Heap} {L : Addr}
def BisIn (n : Nat) (f : Nat → Bool) (lo hi : Nat) : Prop := lo ≤ hi ∧ hi ≤ n ∧ (∀ i, i < lo → f i = true) ∧ (∀ i, hi ≤ i → i < n → f i = false)
def BisPost (h₀ : Heap) (L : Addr) (s : Shared) (news : List (Addr × Obj)) (m₀ : Str → Option Value) (n : Nat) (f : Nat → Bool) (Q : Flow → Shared → Prop) (lo hi : Nat) (fl : Flow) (s₃ : Shared) : Prop :=
  match fl with
  | .next | .cont => ∃ (h' : Heap) (tk : Nat) (m₂ : Str → Option Value) (nw : List (Addr × Obj)) (lo' hi' : Nat) (tl th : Tok), s₃ = { s with heap := h', toks := tk } ∧ Fr h₀ L h' m₂ ∧ News h₀ L h' nw ∧ (∀ p ∈ news, p ∈ nw) ∧ BisIn n f lo' hi' ∧ hi' - lo' < hi - lo ∧
      m₂ (Str.ofString "lo") = some (.int lo' tl) ∧ m₂ (Str.ofString "hi") = some (.int hi' th) ∧ ∀ y, y ≠ Str.ofString "mid" → y ≠ Str.ofString "lo" → y ≠ Str.ofString "hi" → m₂ y = m₀ y
  | .brk => Q .next s₃
  | .ret v => Q (.ret v) s₃
theorem bis_loop {test : Expr} {body : List Stmt} {pos : Pos} {m₀ : Str → Option Value} {news : List (Addr × Obj)} (n : Nat) (f : Nat → Bool)
    (F : Fr h₀ L s.heap m₀) (N : News h₀ L s.heap news) (hlo : ∃ t, m₀ (Str.ofString "lo") = some (.int 0 t)) (hhi : ∃ t, m₀ (Str.ofString "hi") = some (.int n t))
    (turn : ∀ (lo hi : Nat) tl th u h tk, BisIn n f lo hi → Fr h₀ L h (fun y => if y = Str.ofString "mid" then u else if y = Str.ofString "lo" then some (.int lo tl) else if y = Str.ofString "hi" then some (.int hi th) else m₀ y) → News h₀ L h news →
      wpAny (model PG w) A (isTrue test env (eval test env)) (fun b s₂ =>
        if b = true then wpAny (model PG w) A (execs body env) (BisPost h₀ L s news m₀ n f Q lo hi) E s₂ else Q .next s₂) E { s with heap := h, toks := tk })
    (hE : PassesOwn (model PG w) A env E := by passes_own) :
    wpAny (model PG w) A (exec (.While test body [] pos) env) Q E s := by
  obtain ⟨t1, h1⟩ := hlo
  obtain ⟨t2, h2⟩ := hhi
  refine While_inv2 (n₀ := n) (fun k m nx => nx = news ∧ ∃ (lo hi : Nat) (tl th : Tok) (u : Option Value), k = hi - lo ∧ BisIn n f lo hi ∧ m = fun y => if y = Str.ofString "mid" then u else if y = Str.ofString "lo" then some (.int lo tl) else if y = Str.ofString "hi" then some (.int hi th) else m₀ y) F N
    ⟨rfl, 0, n, t1, t2, m₀ (Str.ofString "mid"), rfl, ⟨Nat.zero_le _, Nat.le_refl _, fun i hi => absurd hi (Nat.not_lt_zero i), fun i h3 h4 => absurd h3 (by omega)⟩, map3 h1 h2 fun _ _ _ _ => rfl⟩ ?_ hE
  rintro k m₁ nx h tk F₁ N₁ ⟨rfl, lo, hi, tl, th, u, rfl, hb, rfl⟩
  refine wpAny_mono (turn lo hi tl th u h tk hb F₁ N₁) (fun b s₂ hp => ?_) fun _ _ x => x
  cases b with
  | false => simpa using hp
  | true =>
    simp only [if_true] at hp ⊢
    refine wpAny_mono hp (fun fl s₃ q => ?_) fun _ _ x => x
    have fin : ∀ s₃, (∃ (h' : Heap) (tk : Nat) (m₂ : Str → Option Value) (nw : List (Addr × Obj)) (lo' hi' : Nat) (tl th : Tok), s₃ = { s with heap := h', toks := tk } ∧ Fr h₀ L h' m₂ ∧ News h₀ L h' nw ∧ (∀ p ∈ nx, p ∈ nw) ∧ BisIn n f lo' hi' ∧ hi' - lo' < hi - lo ∧
      m₂ (Str.ofString "lo") = some (.int lo' tl) ∧ m₂ (Str.ofString "hi") = some (.int hi' th) ∧ ∀ y, y ≠ Str.ofString "mid" → y ≠ Str.ofString "lo" → y ≠ Str.ofString "hi" → m₂ y = m₀ y) →
      ∃ h' tk m₂ news₂ n', s₃ = { s with heap := h', toks := tk } ∧ Fr h₀ L h' m₂ ∧ News h₀ L h' news₂ ∧ n' < hi - lo ∧ (news₂ = nx ∧ ∃ (lo hi : Nat) (tl th : Tok) (u : Option Value), n' = hi - lo ∧ BisIn n f lo hi ∧ m₂ = fun y => if y = Str.ofString "mid" then u else if y = Str.ofString "lo" then some (.int lo tl) else if y = Str.ofString "hi" then some (.int hi th) else m₀ y) := by
      rintro s₃ ⟨h', tk, m₂, nw, lo', hi', tl', th', rfl, F', N', hs, hb', hm, e1, e2, e3⟩
      exact ⟨h', tk, m₂, nx, hi' - lo', rfl, F', fun p hp => N' p (hs p hp), hm, rfl, lo', hi', tl', th', _, rfl, hb', map3 e1 e2 e3⟩
    cases fl with
    | ret v => exact q
    | brk => exact q
    | next => exact fin _ q
    | cont => exact fin _ q
end
def KeyOk (w : World) (mean : ExcName → Option Value) (mg mb : Str → Option Value) (kd : Nat) (kf : Addr) (news : List (Addr × Obj)) (vs : List Value) (kv : Nat → Tok → Value) : Prop :=
  ∀ i v, vs[i]? = some v → CL w mean mg mb kd kf news True [v] (RetV news (kv i))
section
variable {w : World} {A : Around} {E : Value → Shared → Prop} {s : Shared} {h₀ h : Heap} {L l : Addr} {news : List (Addr × Obj)}
theorem fnAt_mem {kf : Addr} (N : News h₀ L h news) (hk : ∃ oc od fd sl, (kf, (⟨oc, od, .func fd, sl⟩ : Obj)) ∈ news) : FnAt kf h := by
  obtain ⟨oc, od, fd, sl, hm⟩ := hk
  exact FnAt.of N hm
theorem item_mem {value slice : Expr} {vs : List Value} {c : Nat} {k : Int} {u : Tok} {v : Value} {Q : Value → Shared → Prop} (N : News h₀ L s.heap news) (hm : (l, listOf (List.toArray vs) c) ∈ news)
    (h0 : 0 ≤ k) (h1 : k < 2 ^ 63) (hx : vs[k.toNat]? = some v) (h : Q v s)
    (hs : subscripted slice false (.ref l) (.int k u) = operate [.ref l, .int k u] (getItem (.ref l) (.int k u)) := by with_unfolding_all rfl) :
    wpAny (model PG w) A (subscriptTail value slice (.ref l) (.int k u)) Q E s := by
  have hl : s.heap.IsList l (List.toArray vs) := News.isList N hm
  exact tail_any hl.typeIs slot_list_getitem.lookup (wpAny_getItem_list hl h0 h1 (by simpa using hx) h) hs
end
theorem bis_end {h₀ h' : Heap} {L : Addr} {s : Shared} {news : List (Addr × Obj)} {m₀ m₂ : Str → Option Value} {n : Nat} {f : Nat → Bool} {Q : Flow → Shared → Prop} {lo hi lo' hi' : Nat} {x y : Int} {tl th : Tok} {tk : Nat}
    (F : Fr h₀ L h' m₂) (N : News h₀ L h' news) (e1 : m₂ (Str.ofString "lo") = some (.int x tl)) (e2 : m₂ (Str.ofString "hi") = some (.int y th)) (e3 : ∀ y, y ≠ Str.ofString "mid" → y ≠ Str.ofString "lo" → y ≠ Str.ofString "hi" → m₂ y = m₀ y)
    (hx : x = (lo' : Int)) (hy : y = (hi' : Int)) (hb : BisIn n f lo' hi') (hm : hi' - lo' < hi - lo) : BisPost h₀ L s news m₀ n f Q lo hi .next { s with heap := h', toks := tk } := by
  subst hx hy
  exact ⟨h', tk, m₂, news, lo', hi', tl, th, rfl, F, N, fun _ h => h, hb, hm, e1, e2, e3⟩
theorem bis_lo {n : Nat} {f : Nat → Bool} {lo hi : Nat} (hmono : ∀ i j, i < j → j < n → f j = true → f i = true) (h1 : lo < hi) (h2 : hi ≤ n) (h4 : ∀ i, hi ≤ i → i < n → f i = false) (hf : f ((lo + hi) / 2) = true) : BisIn n f ((lo + hi) / 2 + 1) hi := by
  refine ⟨by omega, h2, fun i hi' => ?_, h4⟩
  by_cases e : i = (lo + hi) / 2
  · rw [e]; exact hf
  · exact hmono i _ (by omega) (by omega) hf
theorem bis_hi {n : Nat} {f : Nat → Bool} {lo hi : Nat} (hmono : ∀ i j, i < j → j < n → f j = true → f i = true) (h1 : lo < hi) (h2 : hi ≤ n) (h3 : ∀ i, i < lo → f i = true) (hf : f ((lo + hi) / 2) = false) : BisIn n f lo ((lo + hi) / 2) := by
  refine ⟨by omega, by omega, h3, fun i hi' hin => ?_⟩
  by_cases e : i = (lo + hi) / 2
  · rw [e]; exact hf
  · cases q : f i with
    | false => rfl
    | true => rw [hmono _ i (by omega) hin q] at hf; cases hf
theorem binds_as {K : Frag} {f : Addr} {s : Shared} {fd fd' : FuncData} {oc oc' : Value} {od od' : Option Addr} {osl osl' : Array (Option Value)} {args : Args} {binds : List (Str × Value)} (h1 : K.lookup f = some ⟨oc, od, .func fd, osl⟩) (h2 : K.lookup f = some ⟨oc', od', .func fd', osl'⟩) (hb : BindsTo s fd args binds) : BindsTo s fd' args binds := by
  have e := h1.symm.trans h2
  cases e; exact hb
theorem bisL_C {w : World} {mean : ExcName → Option Value} {mg mb : Str → Option Value} (kd : Nat) (news : List (Addr × Obj)) (l kf : Addr) (vs : List Value) (cnt : Nat) (kv : Nat → Tok → Value) (xv : Value) (f : Nat → Bool) (tl : Tok) (args : Args)
  {fd : FuncData} {oc : Value} {od : Option Addr} {osl : Array (Option Value)}
  (dp un : Nat) (gd : Option (List Code)) (cn : Str) (csc : Scope) (ca : Addr) (ccd : Value) (cl : List (Str × Addr)) (outer : List Env) (A₀ : Around) (base h₀ : Heap) (L : Addr) (m : Str → Option Value) (s : Shared) (R : Result → Shared → Prop)
  (B : Below A₀ base outer h₀) (F : Fr h₀ L s.heap m) (X : (hd.heap_1 w.params).In h₀) (N : News h₀ L s.heap news) (T : Top topProg LZ mean mg mb h₀) (hcs : csc.kind = .function)
  (hfd : (hd.heap_1 w.params).lookup 55 = some ⟨oc, od, .func fd, osl⟩)
  (hbind : BindsTo s fd args [(Str.ofString "a", .ref l), (Str.ofString "x", xv), (Str.ofString "lo", .int 0 tl), (Str.ofString "hi", .none), (Str.ofString "key", .ref kf)])
  (hl : (l, listOf (List.toArray vs) cnt) ∈ news) (hkf : ∃ oc od fd sl, (kf, (⟨oc, od, .func fd, sl⟩ : Obj)) ∈ news) (hn : vs.length ≤ 7)
  (hkey : KeyOk w mean mg mb kd kf news vs kv)
  (hcmp : ∀ i, i < vs.length → ∀ t A E s Q, Q (.bool (f i)) s → wpAny (model PG w) A (compareOp .Lt (kv i t) xv) Q E s)
  (hmono : ∀ i j, i < j → j < vs.length → f j = true → f i = true)
  (hdp : dp + (kd + 3) < recursionLimit) (hun : un + 8 * (kd + 3) < cLine)
  (hret : ∀ (r : Nat) t h' tk', r ≤ vs.length → (∀ i, i < r → f i = true) → (∀ i, r ≤ i → i < vs.length → f i = false) → Fr h₀ L h' m → News h₀ L h' news → R (.ok (.ret (.int r t))) { s with heap := h', toks := tk' }) :
  codeAny (model PG w) (ktrTop dp un gd cn csc L ca ccd cl outer) (.call (.ref 55) args) R s := by
  k_dflt (refine' code_def ?k1 ?k2 ?k3 ?k4 ?k5 ?kA ?kF ?kK ?k6 ?k7 ?k8 ?k9 ?kB ?_ ?c2 ?c3 ?c4 ?c5)
  (case kA => exact rfl)
  (case kF => exact rfl)
  (case kK => first | exact rfl | assumption)
  (case k1 => k_asm)
  (case k2 => k_asm)
  (case k3 => k_asm)
  (case k4 => k_asm)
  (case k5 => k_asm)
  (case k6 => k_dflt k_is)
  (case k7 => k_dflt k_is)
  (case k9 => k_dflt (refine' binds_as hfd ?x1 hbind; (case x1 => k_is)))
  (case k8 => ktr_room)
  (case c5 => decide)
  (case kB => exact locs rfl)
  (case c2 => exact rfl)
  (case c3 => exact rfl)
  (case c4 => exact rfl)
  intro g' L' h' FG' F' N' B' X' T'
  try dsimp only
  k_steps
  refine kst_len N' hl rfl (by omega) ?_
  (repeat' (first | (k_unfold; (try dsimp only)) | (k_end; wrow_close) | ((fail_if_success (with_reducible show wpAny _ _ (exec (Stmt.While _ _ _ _) _) _ _ _)); walk1) | (dsimp only; (fail_if_success (with_reducible show wpAny _ _ (exec (Stmt.While _ _ _ _) _) _ _ _)); walk1)))
  refine' bis_loop vs.length f ?e1 ?e2 ?e3 ?e4 ?_
  (case e1 => k_asm)
  (case e2 => k_asm)
  (case e3 => exact ⟨_, rfl⟩)
  (case e4 => exact ⟨_, rfl⟩)
  intro lo hi tlo thi u h1 tk1 hb F1 N1
  obtain ⟨hb1, hb2, hb3, hb4⟩ := hb
  k_steps
  · have hlt : lo < hi := by omega
    have hmid : ((lo : Int) + hi).fdiv 2 = (((lo + hi) / 2 : Nat) : Int) := by
      rw [Int.fdiv_eq_ediv_of_nonneg _ (by decide)]; omega
    obtain ⟨v, hv⟩ : ∃ v, vs[(lo + hi) / 2]? = some v := ⟨_, List.getElem?_eq_getElem (by omega)⟩
    refine callWith_F (fnAt_mem (by k_asm) hkf) ?_
    k_steps
    refine item_mem (by k_asm) hl (by rw [hmid]; omega) (by rw [hmid]; omega) (by rw [hmid]; exact hv) ?_
    k_steps
    exact fnAt_mem (by k_asm) hkf
    refine' hkey _ v hv _ _ _ _ _ _ _ _ _ _ _ _ _ _ _ _ _ ?cB ?cF ?cX ?cN ?cT ?cK ?cP ?cD ?cU ?_
    (((case cB => k_asm); (case cF => k_asm); (case cX => k_asm); (case cN => k_asm); (case cT => k_asm); (case cK => first | exact rfl | assumption); (case cD => ktr_room); (case cU => ktr_units)))
    (case cP => trivial)
    intro t9 h9 tk9 F9 N9
    try dsimp only
    k_steps
    refine hcmp _ (by omega) _ _ _ _ _ ?_
    k_steps
    · exact bis_end (by k_asm) (by k_asm) rfl rfl (by intro y e1 e2 e3; simp only [if_neg e1, if_neg e2, if_neg e3]) (by rw [hmid]; rfl) rfl (bis_lo hmono hlt hb2 hb4 (by assumption)) (by omega)
    · exact bis_end (by k_asm) (by k_asm) rfl rfl (by intro y e1 e2 e3; simp only [if_neg e1, if_neg e2, if_neg e3]) rfl (by rw [hmid]) (bis_hi hmono hlt hb2 hb3 (by assumption)) (by omega)
  · have hlt : lo = hi := by omega
    subst hlt
    exact hret lo _ _ _ hb2 hb3 hb4 (by k_asm) (by k_asm)
theorem bisR_C {w : World} {mean : ExcName → Option Value} {mg mb : Str → Option Value} (kd : Nat) (news : List (Addr × Obj)) (l kf : Addr) (vs : List Value) (cnt : Nat) (kv : Nat → Tok → Value) (xv : Value) (f : Nat → Bool) (tl : Tok) (args : Args)
  {fd : FuncData} {oc : Value} {od : Option Addr} {osl : Array (Option Value)}
  (dp un : Nat) (gd : Option (List Code)) (cn : Str) (csc : Scope) (ca : Addr) (ccd : Value) (cl : List (Str × Addr)) (outer : List Env) (A₀ : Around) (base h₀ : Heap) (L : Addr) (m : Str → Option Value) (s : Shared) (R : Result → Shared → Prop)
  (B : Below A₀ base outer h₀) (F : Fr h₀ L s.heap m) (X : (hd.heap_1 w.params).In h₀) (N : News h₀ L s.heap news) (T : Top topProg LZ mean mg mb h₀) (hcs : csc.kind = .function)
  (hfd : (hd.heap_1 w.params).lookup 37 = some ⟨oc, od, .func fd, osl⟩)
  (hbind : BindsTo s fd args [(Str.ofString "a", .ref l), (Str.ofString "x", xv), (Str.ofString "lo", .int 0 tl), (Str.ofString "hi", .none), (Str.ofString "key", .ref kf)])
  (hl : (l, listOf (List.toArray vs) cnt) ∈ news) (hkf : ∃ oc od fd sl, (kf, (⟨oc, od, .func fd, sl⟩ : Obj)) ∈ news) (hn : vs.length ≤ 7)
  (hkey : KeyOk w mean mg mb kd kf news vs kv)
  (hcmp : ∀ i, i < vs.length → ∀ t A E s Q, Q (.bool (!f i)) s → wpAny (model PG w) A (compareOp .Lt xv (kv i t)) Q E s)
  (hmono : ∀ i j, i < j → j < vs.length → f j = true → f i = true)
  (hdp : dp + (kd + 3) < recursionLimit) (hun : un + 8 * (kd + 3) < cLine)
  (hret : ∀ (r : Nat) t h' tk', r ≤ vs.length → (∀ i, i < r → f i = true) → (∀ i, r ≤ i → i < vs.length → f i = false) → Fr h₀ L h' m → News h₀ L h' news → R (.ok (.ret (.int r t))) { s with heap := h', toks := tk' }) :
  codeAny (model PG w) (ktrTop dp un gd cn csc L ca ccd cl outer) (.call (.ref 37) args) R s := by
  k_dflt (refine' code_def ?k1 ?k2 ?k3 ?k4 ?k5 ?kA ?kF ?kK ?k6 ?k7 ?k8 ?k9 ?kB ?_ ?c2 ?c3 ?c4 ?c5)
  (case kA => exact rfl)
  (case kF => exact rfl)
  (case kK => first | exact rfl | assumption)
  (case k1 => k_asm)
  (case k2 => k_asm)
  (case k3 => k_asm)
  (case k4 => k_asm)
  (case k5 => k_asm)
  (case k6 => k_dflt k_is)
  (case k7 => k_dflt k_is)
  (case k9 => k_dflt (refine' binds_as hfd ?x1 hbind; (case x1 => k_is)))
  (case k8 => ktr_room)
  (case c5 => decide)
  (case kB => exact locs rfl)
  (case c2 => exact rfl)
  (case c3 => exact rfl)
  (case c4 => exact rfl)
  intro g' L' h' FG' F' N' B' X' T'
  try dsimp only
  k_steps
  refine kst_len N' hl rfl (by omega) ?_
  (repeat' (first | (k_unfold; (try dsimp only)) | (k_end; wrow_close) | ((fail_if_success (with_reducible show wpAny _ _ (exec (Stmt.While _ _ _ _) _) _ _ _)); walk1) | (dsimp only; (fail_if_success (with_reducible show wpAny _ _ (exec (Stmt.While _ _ _ _) _) _ _ _)); walk1)))
  refine' bis_loop vs.length f ?e1 ?e2 ?e3 ?e4 ?_
  (case e1 => k_asm)
  (case e2 => k_asm)
  (case e3 => exact ⟨_, rfl⟩)
  (case e4 => exact ⟨_, rfl⟩)
  intro lo hi tlo thi u h1 tk1 hb F1 N1
  obtain ⟨hb1, hb2, hb3, hb4⟩ := hb
  k_steps
  · have hlt : lo < hi := by omega
    have hmid : ((lo : Int) + hi).fdiv 2 = (((lo + hi) / 2 : Nat) : Int) := by
      rw [Int.fdiv_eq_ediv_of_nonneg _ (by decide)]; omega
    obtain ⟨v, hv⟩ : ∃ v, vs[(lo + hi) / 2]? = some v := ⟨_, List.getElem?_eq_getElem (by omega)⟩
    refine callWith_F (fnAt_mem (by k_asm) hkf) ?_
    k_steps
    refine item_mem (by k_asm) hl (by rw [hmid]; omega) (by rw [hmid]; omega) (by rw [hmid]; exact hv) ?_
    k_steps
    exact fnAt_mem (by k_asm) hkf
    refine' hkey _ v hv _ _ _ _ _ _ _ _ _ _ _ _ _ _ _ _ _ ?cB ?cF ?cX ?cN ?cT ?cK ?cP ?cD ?cU ?_
    (((case cB => k_asm); (case cF => k_asm); (case cX => k_asm); (case cN => k_asm); (case cT => k_asm); (case cK => first | exact rfl | assumption); (case cD => ktr_room); (case cU => ktr_units)))
    (case cP => trivial)
    intro t9 h9 tk9 F9 N9
    try dsimp only
    k_steps
    refine hcmp _ (by omega) _ _ _ _ _ ?_
    k_steps
    · exact bis_end (by k_asm) (by k_asm) rfl rfl (by intro y e1 e2 e3; simp only [if_neg e1, if_neg e2, if_neg e3]) (by rw [hmid]; rfl) rfl (bis_lo hmono hlt hb2 hb4 (by first | assumption | (simp only [Bool.not_eq_false', Bool.not_eq_true'] at *; assumption))) (by omega)
    · exact bis_end (by k_asm) (by k_asm) rfl rfl (by intro y e1 e2 e3; simp only [if_neg e1, if_neg e2, if_neg e3]) rfl (by rw [hmid]) (bis_hi hmono hlt hb2 hb3 (by first | assumption | (simp only [Bool.not_eq_false', Bool.not_eq_true'] at *; assumption))) (by omega)
  · have hlt : lo = hi := by omega
    subst hlt
    exact hret lo _ _ _ hb2 hb3 hb4 (by k_asm) (by k_asm)
theorem insort_C {w : World} {mean : ExcName → Option Value} {mg mb : Str → Option Value} (kd : Nat) (rest : List (Addr × Obj)) (l kf xt : Addr) (vs : List Value) (cnt : Nat) (kv : Nat → Tok → Value) (kx : Tok → Value) (f : Nat → Bool) (tl : Tok) (args : Args)
  {fd : FuncData} {oc : Value} {od : Option Addr} {osl : Array (Option Value)}
  (dp un : Nat) (gd : Option (List Code)) (cn : Str) (csc : Scope) (ca : Addr) (ccd : Value) (cl : List (Str × Addr)) (outer : List Env) (A₀ : Around) (base h₀ : Heap) (L : Addr) (m : Str → Option Value) (s : Shared) (R : Result → Shared → Prop)
  (B : Below A₀ base outer h₀) (F : Fr h₀ L s.heap m) (X : (hd.heap_1 w.params).In h₀) (N : News h₀ L s.heap ((l, listOf (List.toArray vs) cnt) :: rest)) (T : Top topProg LZ mean mg mb h₀) (hcs : csc.kind = .function)
  (hfd : (hd.heap_1 w.params).lookup 46 = some ⟨oc, od, .func fd, osl⟩)
  (hbind : BindsTo s fd args [(Str.ofString "a", .ref l), (Str.ofString "x", .ref xt), (Str.ofString "lo", .int 0 tl), (Str.ofString "hi", .none), (Str.ofString "key", .ref kf)])
  (hrest : ∀ p ∈ rest, p.1 ≠ l) (hkf : ∃ oc od fd sl, (kf, (⟨oc, od, .func fd, sl⟩ : Obj)) ∈ rest) (hn : vs.length ≤ 7)
  (hkey : KeyOk w mean mg mb kd kf ((l, listOf (List.toArray vs) cnt) :: rest) vs kv)
  (hkx : CL w mean mg mb kd kf ((l, listOf (List.toArray vs) cnt) :: rest) True [.ref xt] (RetV ((l, listOf (List.toArray vs) cnt) :: rest) kx))
  (hcmp : ∀ i, i < vs.length → ∀ t t' A E s Q, Q (.bool (f i)) s → wpAny (model PG w) A (compareOp .Lt (kv i t) (kx t')) Q E s)
  (hmono : ∀ i j, i < j → j < vs.length → f j = true → f i = true)
  (hdp : dp + (kd + 6) < recursionLimit) (hun : un + 8 * (kd + 6) < cLine)
  (hret : ∀ (r : Nat) h' tk', r ≤ vs.length → (∀ i, i < r → f i = true) → (∀ i, r ≤ i → i < vs.length → f i = false) → Fr h₀ L h' m → News h₀ L h' ((l, listOf (List.toArray (vs.take r ++ .ref xt :: vs.drop r)) (cnt + 1)) :: rest) → R (.ok (.ret .none)) { s with heap := h', toks := tk' }) :
  codeAny (model PG w) (ktrTop dp un gd cn csc L ca ccd cl outer) (.call (.ref 46) args) R s := by
  k_dflt (refine' code_def ?k1 ?k2 ?k3 ?k4 ?k5 ?kA ?kF ?kK ?k6 ?k7 ?k8 ?k9 ?kB ?_ ?c2 ?c3 ?c4 ?c5)
  (case kA => exact rfl)
  (case kF => exact rfl)
  (case kK => first | exact rfl | assumption)
  (case k1 => k_asm)
  (case k2 => k_asm)
  (case k3 => k_asm)
  (case k4 => k_asm)
  (case k5 => k_asm)
  (case k6 => k_dflt k_is)
  (case k7 => k_dflt k_is)
  (case k9 => k_dflt (refine' binds_as hfd ?x1 hbind; (case x1 => k_is)))
  (case k8 => ktr_room)
  (case c5 => decide)
  (case kB => exact locs rfl)
  (case c2 => exact rfl)
  (case c3 => exact rfl)
  (case c4 => exact rfl)
  intro g' L' h' FG' F' N' B' X' T'
  try dsimp only
  have hkf' : ∃ oc od fd sl, (kf, (⟨oc, od, .func fd, sl⟩ : Obj)) ∈ (l, listOf (List.toArray vs) cnt) :: rest := by obtain ⟨a, b, c, d, h⟩ := hkf; exact ⟨a, b, c, d, List.mem_cons_of_mem _ h⟩
  k_steps
  refine callWith_F (fnAt_mem (by k_asm) hkf') ?_
  k_steps
  exact fnAt_mem (by k_asm) hkf'
  refine' hkx _ _ _ _ _ _ _ _ _ _ _ _ _ _ _ _ _ ?cB ?cF ?cX ?cN ?cT ?cK ?cP ?cD ?cU ?_
  (((case cB => k_asm); (case cF => k_asm); (case cX => k_asm); (case cN => k_asm); (case cT => k_asm); (case cK => first | exact rfl | assumption); (case cD => ktr_room); (case cU => ktr_units)))
  (case cP => trivial)
  intro t9 h9 tk9 F9 N9
  try dsimp only
  k_steps
  refine wpAny_call ?_
  refine' bisL_C kd _ l kf vs cnt kv (kx t9) f tl _ _ _ _ _ _ _ _ _ _ _ _ _ _ _ _ _ ?cB ?cF ?cX ?cN ?cT ?cK ?x1 ?x2 (List.Mem.head _) hkf' hn hkey (fun i hi t A E s Q h => hcmp i hi t t9 A E s Q h) hmono ?cD ?cU ?_
  (((case cB => k_asm); (case cF => k_asm); (case cX => k_asm); (case cN => k_asm); (case cT => k_asm); (case cK => first | exact rfl | assumption); (case cD => ktr_room); (case cU => ktr_units)))
  (case x1 => k_dflt k_is)
  (case x2 => exact binds_K (by k_in) rfl (by k_dflt k_is) rfl rfl rfl)
  intro r tr h8 tk8 hr1 hr2 hr3 F8 N8
  try dsimp only
  k_steps
  have hins : kl_ins vs (r : Int) (.ref xt) = vs.take r ++ .ref xt :: vs.drop r := by
    unfold kl_ins
    rw [if_neg (by omega), Int.toNat_natCast, Nat.min_eq_left hr1]
  refine kl_insert (by k_asm) (by k_asm) (by unfold Builtin.List.listFitsIndex; simp; omega) (show kl_ins (List.toArray vs).toList (r : Int) (.ref xt) = _ from hins) (Upd.head hrest) (by rw [sizeLine_eq]; simp; omega) ?_
  intro h7 F7 N7
  k_steps
  exact hret r _ _ hr1 hr2 hr3 (by k_asm) (by k_asm)
section
variable {prog : Program} {w : World} {A A₀ : Around} {s : Shared} {K : Frag} {L : Addr} {h₀ base : Heap} {m mg mb : Str → Option Value} {own rest : List (Addr × Obj)} {p : Program} {loose : List Str} {mean : ExcName → Option Value}
theorem kla_code2 {env : Env} {outer : List Env} {R : Result → Shared → Prop} {name qual : Str} {params : Arguments} {body : Expr} {scope : Scope} {cl : List (Str × Addr)} {pm ctv : Value} {c' : Addr} {f : Addr} {args : Args} {binds : List (Str × Value)}
    (NR : News h₀ L s.heap rest) (hdis : ∀ p ∈ rest, p.1 ∉ own.map (·.1))
    (B : Below A₀ base outer h₀) (F : Fr h₀ L s.heap m) (X₀ : K.In h₀) (N : News h₀ L s.heap own) (T : Top p loose mean mg mb h₀) (hA : A.frames = some (env :: outer)) (hf : env.frame = some L) (hke : env.scope.kind = .function)
    (ho : (f, kla_obj name qual params body scope cl pm c' ctv) ∈ own) (hcd : s.heap.CodeRec (.ref c') qual) (hroom : A.depth < recursionLimit)
    (hbind : bindArgs (kla_fn name qual params body scope cl pm (.ref c') ctv) args = pure binds) (hloc : ∀ y ∈ binds, scope.names.lookup y.1 = some .local)
    (h : ∀ g L' h₁, Kept rest g → Fr h₀ L g m → Fr g L' h₁ (fun y => binds.reverse.lookup y) → News g L' h₁ own → Below A base (env :: outer) g → K.In g → Top p loose mean mg mb g →
      wpAny (model prog w) (A.deeper (envX qual scope L' f (.ref c') cl)) (eval body (envX qual scope L' f (.ref c') cl))
        (fun v s' => LeaveK h₀ L m g R v s')
        (fun e s' => wpAny (model prog w) (A.deeper (envX qual scope L' f (.ref c') cl)) (leaving (envX qual scope L' f (.ref c') cl) e) (fun _ s'' => R (.error e) s'') (fun e' s'' => R (.error e') s'') s')
        { s with heap := h₁, toks := s.toks + binds.length })
    (hco : scope.isCoroutine = false) (hgen : scope.isGenerator = false) (hk : scope.kind = .function)
    (hcell : ∀ x ∈ scope.names, x.2 ≠ .cell) : codeAny (model prog w) A (.call (.ref f) args) R s := by
  obtain ⟨FG, BG, st, lv⟩ := groundX (R := R) B F N hA hf hke
  refine kla_callFunE hroom (N _ ho).1 rfl hco hgen rfl hcd ?_
  rw [hbind]
  refine wpAny_pure (wpAny_newFunctionEnv hcell hloc (fun h₁ hns hsb => ⟨((T.nolimit).keeps F.keep).fresh _ hsb, ?_⟩) hk)
  show codeAny _ _ (.expr body (envX qual scope s.heap.objs.size f (.ref c') cl)) _ _
  have hk₁ : ∀ b o, s.heap.get? b = some o → h₁.get? b = some o := fun b o e => hsb.extBut b o (Nat.ne_of_lt (Heap.lt_size e)) (Heap.get?_push_of_some _ e)
  exact kla_codeExpr (wpAny_mono (h _ s.heap.objs.size h₁ (fun p hp => hideAll_get _ (NR p hp).1 (hdis p hp)) FG ⟨hns, fun b o e => hk₁ b o (of_hideAll _ e), Nat.le_of_eq (hideAll_size _ _)⟩
    (fun p hp => ⟨hk₁ _ _ (N p hp).1, Nat.ne_of_lt (Heap.lt_size (N p hp).1), hideAll_none _ (List.mem_map_of_mem hp)⟩) BG (X₀.keeps st) (T.keeps st)) (fun v s' hl => lv _ _ hl) fun _ _ y => y)
end
noncomputable abbrev cmpR (fs : Str) (b : Array UInt8) (rb : Nat → Array UInt8) (k : Nat) : Int := cmpB fs.cps.toList (bN b) (rb k) b [0, 1, 2, 3, 4, 5, 6]
abbrev lamP (ln : Nat) : Arguments := { posonlyargs := [], args := [{ arg := Str.ofString "k", annotation := none, pos := ⟨ln, 45, ln, 46⟩ }], vararg := none, kwonlyargs := [], kw_defaults := [], kwarg := none, defaults := [] }
abbrev lamE (ln : Nat) : Expr := Expr.Call (Expr.Attribute (Expr.Name (Str.ofString "judge") ⟨ln, 48, ln, 53⟩) (Str.ofString "compare") ⟨ln, 48, ln, 61⟩) [Expr.Subscript (Expr.Name (Str.ofString "rows") ⟨ln, 62, ln, 66⟩) (Expr.Name (Str.ofString "k") ⟨ln, 67, ln, 68⟩) ⟨ln, 62, ln, 69⟩, Expr.Name (Str.ofString "row") ⟨ln, 71, ln, 74⟩] [] ⟨ln, 48, ln, 75⟩
abbrev lamS : Scope := { kind := .function, names := [(Str.ofString "k", .local), (Str.ofString "judge", .free), (Str.ofString "row", .free), (Str.ofString "rows", .free)], isGenerator := false, isCoroutine := false, more := [] }
theorem lamB_131 {w : World} {mean : ExcName → Option Value} {mg mb : Str → Option Value} {news : List (Addr × Obj)} {f c' z1 z2 z3 rw x d l a0 a1 a2 a3 a4 a5 a6 : Addr} {oc o1 o2 o3 : Obj} {pm ctv : Value} {qual : Str} {vs' : Array Value} {tq : Tok}
  {fs : Str} {b : Array UInt8} {t : Tok} {rs os : List Value} {c1 cnt : Nat} {tk t0 t1 t2 t3 t4 t5 t6 u0 u1 u2 u3 u4 u5 u6 : Tok} {rb : Nat → Array UInt8} {tb : Nat → Tok} {oi : Nat → Nat} {to : Nat → Tok} {hz : Heap} (hC : CodeHd hz 129 125)
  (hf : (f, kla_obj (Str.ofString "<lambda>") qual (lamP 131) (lamE 131) lamS [(Str.ofString "rows", z1), (Str.ofString "row", z2), (Str.ofString "judge", z3)] pm c' ctv) ∈ news)
  (hc : (c', oc) ∈ news) (hd1 : oc.data = .fields vs') (hd2 : vs'[1]? = some (.str qual tq))
  (g3 : (z3, o3) ∈ news) (d3 : o3.data = .cell (some (.ref x))) (g2 : (z2, o2) ∈ news) (d2 : o2.data = .cell (some (.bytes b t))) (g1 : (z1, o1) ∈ news) (d1 : o1.data = .cell (some (.ref rw)))
  (hrw : (rw, listOf (List.toArray rs) c1) ∈ news) (m0 : (x, instObj 79 d) ∈ news) (m1 : (d, judgeDict w tk l) ∈ news) (m2 : (l, listOf #[.ref a0, .ref a1, .ref a2, .ref a3, .ref a4, .ref a5, .ref a6] cnt) ∈ news)
  (n0 : (a0, tup2 0 t0 (wS fs.cps.toList ((bN b).take 0)) u0) ∈ news) (n1 : (a1, tup2 1 t1 (wS fs.cps.toList ((bN b).take 1)) u1) ∈ news) (n2 : (a2, tup2 2 t2 (wS fs.cps.toList ((bN b).take 2)) u2) ∈ news) (n3 : (a3, tup2 3 t3 (wS fs.cps.toList ((bN b).take 3)) u3) ∈ news) (n4 : (a4, tup2 4 t4 (wS fs.cps.toList ((bN b).take 4)) u4) ∈ news) (n5 : (a5, tup2 5 t5 (wS fs.cps.toList ((bN b).take 5)) u5) ∈ news) (n6 : (a6, tup2 6 t6 (wS fs.cps.toList ((bN b).take 6)) u6) ∈ news)
  (hrs : ∀ k, k < 7 → rs[k]? = some (.bytes (rb k) (tb k)) ∧ (rb k).size = 7) (hos : ∀ i, i < 7 → os[i]? = some (.int (oi i : Nat) (to i)) ∧ oi i < 7) (hol : os.length = 7) (hb : b.size = 7) :
  KeyOk w mean mg mb 12 f news os (fun i t => .int (cmpR fs b rb (oi i)) t) := by
  intro i v hv
  have hi : i < 7 := by
    obtain ⟨h1, _⟩ := List.getElem?_eq_some_iff.mp hv
    omega
  obtain ⟨ho1, ho2⟩ := hos i hi
  rw [ho1] at hv
  cases hv
  obtain ⟨hr1, hr2⟩ := hrs _ ho2
  dsimp only [CL]
  intro dp un gd cn cs ca ccd cl outer A₀ base h₀ L m s Q E B F X N T hcs _ hdp hun hret
  have hsub : ∀ p ∈ (f, kla_obj (Str.ofString "<lambda>") qual (lamP 131) (lamE 131) lamS [(Str.ofString "rows", z1), (Str.ofString "row", z2), (Str.ofString "judge", z3)] pm c' ctv) :: (c', oc) :: (z3, o3) :: (z2, o2) :: (z1, o1) :: (rw, listOf (List.toArray rs) c1) ::
      ledJ w x d l tk cnt a0 a1 a2 a3 a4 a5 a6 t0 t1 t2 t3 t4 t5 t6 u0 u1 u2 u3 u4 u5 u6 fs.cps.toList (bN b), p ∈ news := by
    intro p hp
    simp only [ledJ, List.mem_cons, List.not_mem_nil, or_false] at hp
    rcases hp with rfl | rfl | rfl | rfl | rfl | rfl | rfl | rfl | rfl | rfl | rfl | rfl | rfl | rfl | rfl | rfl <;> assumption
  have NO := news_sub N hsub
  refine wpAny_call ?_
  k_dflt (refine' kla_code2 (news_sub N restOf_sub) restOf_dis ?k1 ?k2 ?k3 NO ?k5 ?kA ?kF ?kK (List.Mem.head _) ?k7 ?k8 ?k9 ?kB ?_ ?c2 ?c3 ?c4 ?c5)
  (case kA => exact rfl)
  (case kF => exact rfl)
  (case kK => first | exact rfl | assumption)
  (case k1 => k_asm)
  (case k2 => k_asm)
  (case k3 => k_asm)
  (case k5 => k_asm)
  (case k7 => exact codeRec_news N hc hd1 hd2)
  (case k8 => ktr_room)
  (case k9 => exact rfl)
  (case c5 => decide)
  (case kB => exact locs rfl)
  (case c2 => exact rfl)
  (case c3 => exact rfl)
  (case c4 => exact rfl)
  intro g' L' h' KP FG' F' N' B' X' T'
  try dsimp only
  try simp only [ledJ] at N'
  try dsimp only [lamE]
  try k_lift B'
  try k_fold
  k_steps
  refine item_mem (by k_asm) (by k_mem) (by omega) (by omega) (by rw [Int.toNat_natCast]; exact hr1) ?_
  k_steps
  exact call_fin hret KP N hsub (by k_asm) (by k_asm) (by k_asm) (fun p hp => hp) rfl
theorem lamB_132 {w : World} {mean : ExcName → Option Value} {mg mb : Str → Option Value} {news : List (Addr × Obj)} {f c' z1 z2 z3 rw x d l a0 a1 a2 a3 a4 a5 a6 : Addr} {oc o1 o2 o3 : Obj} {pm ctv : Value} {qual : Str} {vs' : Array Value} {tq : Tok}
  {fs : Str} {b : Array UInt8} {t : Tok} {rs os : List Value} {c1 cnt : Nat} {tk t0 t1 t2 t3 t4 t5 t6 u0 u1 u2 u3 u4 u5 u6 : Tok} {rb : Nat → Array UInt8} {tb : Nat → Tok} {oi : Nat → Nat} {to : Nat → Tok} {hz : Heap} (hC : CodeHd hz 129 125)
  (hf : (f, kla_obj (Str.ofString "<lambda>") qual (lamP 132) (lamE 132) lamS [(Str.ofString "rows", z1), (Str.ofString "row", z2), (Str.ofString "judge", z3)] pm c' ctv) ∈ news)
  (hc : (c', oc) ∈ news) (hd1 : oc.data = .fields vs') (hd2 : vs'[1]? = some (.str qual tq))
  (g3 : (z3, o3) ∈ news) (d3 : o3.data = .cell (some (.ref x))) (g2 : (z2, o2) ∈ news) (d2 : o2.data = .cell (some (.bytes b t))) (g1 : (z1, o1) ∈ news) (d1 : o1.data = .cell (some (.ref rw)))
  (hrw : (rw, listOf (List.toArray rs) c1) ∈ news) (m0 : (x, instObj 79 d) ∈ news) (m1 : (d, judgeDict w tk l) ∈ news) (m2 : (l, listOf #[.ref a0, .ref a1, .ref a2, .ref a3, .ref a4, .ref a5, .ref a6] cnt) ∈ news)
  (n0 : (a0, tup2 0 t0 (wS fs.cps.toList ((bN b).take 0)) u0) ∈ news) (n1 : (a1, tup2 1 t1 (wS fs.cps.toList ((bN b).take 1)) u1) ∈ news) (n2 : (a2, tup2 2 t2 (wS fs.cps.toList ((bN b).take 2)) u2) ∈ news) (n3 : (a3, tup2 3 t3 (wS fs.cps.toList ((bN b).take 3)) u3) ∈ news) (n4 : (a4, tup2 4 t4 (wS fs.cps.toList ((bN b).take 4)) u4) ∈ news) (n5 : (a5, tup2 5 t5 (wS fs.cps.toList ((bN b).take 5)) u5) ∈ news) (n6 : (a6, tup2 6 t6 (wS fs.cps.toList ((bN b).take 6)) u6) ∈ news)
  (hrs : ∀ k, k < 7 → rs[k]? = some (.bytes (rb k) (tb k)) ∧ (rb k).size = 7) (hos : ∀ i, i < 7 → os[i]? = some (.int (oi i : Nat) (to i)) ∧ oi i < 7) (hol : os.length = 7) (hb : b.size = 7) :
  KeyOk w mean mg mb 12 f news os (fun i t => .int (cmpR fs b rb (oi i)) t) := by
  intro i v hv
  have hi : i < 7 := by
    obtain ⟨h1, _⟩ := List.getElem?_eq_some_iff.mp hv
    omega
  obtain ⟨ho1, ho2⟩ := hos i hi
  rw [ho1] at hv
  cases hv
  obtain ⟨hr1, hr2⟩ := hrs _ ho2
  dsimp only [CL]
  intro dp un gd cn cs ca ccd cl outer A₀ base h₀ L m s Q E B F X N T hcs _ hdp hun hret
  have hsub : ∀ p ∈ (f, kla_obj (Str.ofString "<lambda>") qual (lamP 132) (lamE 132) lamS [(Str.ofString "rows", z1), (Str.ofString "row", z2), (Str.ofString "judge", z3)] pm c' ctv) :: (c', oc) :: (z3, o3) :: (z2, o2) :: (z1, o1) :: (rw, listOf (List.toArray rs) c1) ::
      ledJ w x d l tk cnt a0 a1 a2 a3 a4 a5 a6 t0 t1 t2 t3 t4 t5 t6 u0 u1 u2 u3 u4 u5 u6 fs.cps.toList (bN b), p ∈ news := by
    intro p hp
    simp only [ledJ, List.mem_cons, List.not_mem_nil, or_false] at hp
    rcases hp with rfl | rfl | rfl | rfl | rfl | rfl | rfl | rfl | rfl | rfl | rfl | rfl | rfl | rfl | rfl | rfl <;> assumption
  have NO := news_sub N hsub
  refine wpAny_call ?_
  k_dflt (refine' kla_code2 (news_sub N restOf_sub) restOf_dis ?k1 ?k2 ?k3 NO ?k5 ?kA ?kF ?kK (List.Mem.head _) ?k7 ?k8 ?k9 ?kB ?_ ?c2 ?c3 ?c4 ?c5)
  (case kA => exact rfl)
  (case kF => exact rfl)
  (case kK => first | exact rfl | assumption)
  (case k1 => k_asm)
  (case k2 => k_asm)
  (case k3 => k_asm)
  (case k5 => k_asm)
  (case k7 => exact codeRec_news N hc hd1 hd2)
  (case k8 => ktr_room)
  (case k9 => exact rfl)
  (case c5 => decide)
  (case kB => exact locs rfl)
  (case c2 => exact rfl)
  (case c3 => exact rfl)
  (case c4 => exact rfl)
  intro g' L' h' KP FG' F' N' B' X' T'
  try dsimp only
  try simp only [ledJ] at N'
  try dsimp only [lamE]
  try k_lift B'
  try k_fold
  k_steps
  refine item_mem (by k_asm) (by k_mem) (by omega) (by omega) (by rw [Int.toNat_natCast]; exact hr1) ?_
  k_steps
  exact call_fin hret KP N hsub (by k_asm) (by k_asm) (by k_asm) (fun p hp => hp) rfl
/-- the notes on the two lambdas of _law_bounds, ahead of its first call and behind it -/
abbrev qualB : Str := Str.ofString "_law_bounds" ++ Str.ofString ".<locals>." ++ Str.ofString "<lambda>"
abbrev tabB (c1 c2 : Addr) : Obj := tabObj (#[] ++ #[rawInt ((131 : Nat) : Int), rawInt ((38 : Nat) : Int), .ref c1] ++ #[rawInt ((132 : Nat) : Int), rawInt ((38 : Nat) : Int), .ref c2])
def TabSt (tl : List (Addr × Obj)) : Prop :=
  tl = [(125, tabObj #[])] ∨ ∃ c1 o1 v1 t1 c2 o2 v2 t2, tl = [(125, tabB c1 c2), (c1, o1), (c2, o2)] ∧ o1.data = .fields v1 ∧ v1[1]? = some (.str qualB t1) ∧ o2.data = .fields v2 ∧ v2[1]? = some (.str qualB t2)
def BndIn (c : Nat → Int) (r1 r2 : Nat) : Prop := r1 ≤ 7 ∧ r2 ≤ 7 ∧ (∀ i, i < r1 → c i < 0) ∧ (∀ i, r1 ≤ i → i < 7 → ¬ c i < 0) ∧ (∀ i, i < r2 → ¬ 0 < c i) ∧ (∀ i, r2 ≤ i → i < 7 → 0 < c i)
theorem bndIn_of {c : Nat → Int} {n r1 r2 : Nat} (hn : n = 7) (h1 : r1 ≤ n) (h2 : r2 ≤ n) (a1 : ∀ i, i < r1 → decide (c i < 0) = true) (a2 : ∀ i, r1 ≤ i → i < n → decide (c i < 0) = false)
    (b1 : ∀ i, i < r2 → (!decide (0 < c i)) = true) (b2 : ∀ i, r2 ≤ i → i < n → (!decide (0 < c i)) = false) : BndIn c r1 r2 := by
  subst hn
  refine ⟨h1, h2, fun i h => by simpa using a1 i h, fun i h k => by simpa using a2 i h k, fun i h => by simpa using b1 i h, fun i h k => by simpa using b2 i h k⟩
theorem bnd_fin {h₀ g h hs : Heap} {L L' : Addr} {m m' : Str → Option Value} {rest js : List (Addr × Obj)} {rw od D f1 f2 k1 k2 : Addr} {lo1 lo2 o1 o2 tb : Obj} {e1 e2 e3 : Addr × Obj} {rs os : List Value} {c1 c2 : Nat} {fs : Str} {b : Array UInt8} {rb : Nat → Array UInt8} {oi : Nat → Nat}
    {v1 v2 : Array Value} {tq1 tq2 t1 t2 : Tok} {r1 r2 : Nat} {s : Shared} {Q : Value → Shared → Prop} {tk : Nat}
    (hret : ∀ D (r1 r2 : Nat) t1 t2 tl' h' tk', BndIn (fun i => cmpR fs b rb (oi i)) r1 r2 → TabSt tl' → (∀ p ∈ tl', (∃ q ∈ ([(125, tabObj #[])] : List (Addr × Obj)), q.1 = p.1) ∨ (∀ q ∈ rest, @LT.lt Nat _ q.1 p.1) ∧ @LT.lt Nat _ rw p.1 ∧ @LT.lt Nat _ od p.1) →
    (∀ q ∈ rest, @LT.lt Nat _ q.1 D) → (∀ q ∈ tl', @LT.lt Nat _ q.1 D) → @LT.lt Nat _ rw D → @LT.lt Nat _ od D → Fr h₀ L h' m →
    News h₀ L h' (((D, tup2 r1 t1 r2 t2) :: (rw, listOf (List.toArray rs) c1) :: (od, listOf (List.toArray os) c2) :: tl') ++ rest) → Q (.ref D) { s with heap := h', toks := tk' })
    (KP : Kept rest g) (F' : Fr g L' h m') (NR : News h₀ L hs rest) (hRL : ∀ p ∈ rest, @LT.lt Nat _ p.1 L') (kF : Fr h₀ L h m)
    (kN : News h₀ L h ((D, tup2 r1 t1 r2 t2) :: (f2, lo2) :: (k2, o2) :: (f1, lo1) :: (k1, o1) :: e3 :: e2 :: e1 :: (rw, listOf (List.toArray rs) c1) :: (od, listOf (List.toArray os) c2) :: (125, tb) :: js))
    (htb : tb = tabB k1 k2) (a1 : o1.data = .fields v1) (a2 : v1[1]? = some (.str qualB tq1)) (a3 : o2.data = .fields v2) (a4 : v2[1]? = some (.str qualB tq2))
    (hb : BndIn (fun i => cmpR fs b rb (oi i)) r1 r2) (l0 : @LT.lt Nat _ rw L' ∧ @LT.lt Nat _ od L' ∧ @LT.lt Nat _ 125 L') (l1 : @LT.lt Nat _ L' k1) (l2 : @LT.lt Nat _ k1 k2) (l3 : @LT.lt Nat _ k2 D) : Q (.ref D) { s with heap := h, toks := tk } := by
  subst htb
  have hlt : ∀ q ∈ rest, ∀ z : Nat, L' < z → @LT.lt Nat _ q.1 z := fun q hq z hz => Nat.lt_trans (hRL q hq) hz
  obtain ⟨l01, l02, l03⟩ := l0
  have m1 : @LT.lt Nat _ L' k2 := Nat.lt_trans l1 l2
  have m2 : @LT.lt Nat _ L' D := Nat.lt_trans m1 l3
  refine hret D r1 r2 t1 t2 [(125, tabB k1 k2), (k1, o1), (k2, o2)] h tk hb (.inr ⟨_, _, _, _, _, _, _, _, rfl, a1, a2, a3, a4⟩) ?_ (fun q hq => hlt q hq _ m2) ?_ (Nat.lt_trans l01 m2) (Nat.lt_trans l02 m2) kF
    (news_more KP F' NR (news_sub kN ?_))
  · exact List.forall_mem_cons.mpr ⟨.inl ⟨_, .head _, rfl⟩, List.forall_mem_cons.mpr ⟨.inr ⟨fun q hq => hlt q hq _ l1, Nat.lt_trans l01 l1, Nat.lt_trans l02 l1⟩, List.forall_mem_cons.mpr ⟨.inr ⟨fun q hq => hlt q hq _ m1, Nat.lt_trans l01 m1, Nat.lt_trans l02 m1⟩, List.forall_mem_nil _⟩⟩⟩
  · exact List.forall_mem_cons.mpr ⟨Nat.lt_trans l03 m2, List.forall_mem_cons.mpr ⟨Nat.lt_trans l2 l3, List.forall_mem_cons.mpr ⟨l3, List.forall_mem_nil _⟩⟩⟩
  · refine List.forall_mem_cons.mpr ⟨.head _, List.forall_mem_cons.mpr ⟨?_, List.forall_mem_cons.mpr ⟨?_, List.forall_mem_cons.mpr ⟨?_, List.forall_mem_cons.mpr ⟨?_, List.forall_mem_cons.mpr ⟨?_, List.forall_mem_nil _⟩⟩⟩⟩⟩⟩
    · (iterate 8 refine List.Mem.tail _ ?_); exact .head _
    · (iterate 9 refine List.Mem.tail _ ?_); exact .head _
    · (iterate 10 refine List.Mem.tail _ ?_); exact .head _
    · (iterate 4 refine List.Mem.tail _ ?_); exact .head _
    · (iterate 2 refine List.Mem.tail _ ?_); exact .head _
theorem bnd_finB {h₀ g h hs : Heap} {L L' : Addr} {m m' : Str → Option Value} {rest js : List (Addr × Obj)} {rw od D f1 f2 k1 k2 : Addr} {lo1 lo2 o1 o2 : Obj} {e1 e2 e3 : Addr × Obj} {rs os : List Value} {c1 c2 : Nat} {fs : Str} {b : Array UInt8} {rb : Nat → Array UInt8} {oi : Nat → Nat}
    {v1 v2 : Array Value} {tq1 tq2 t1 t2 : Tok} {r1 r2 : Nat} {s : Shared} {Q : Value → Shared → Prop} {tk : Nat}
    (hret : ∀ D (r1 r2 : Nat) t1 t2 tl' h' tk', BndIn (fun i => cmpR fs b rb (oi i)) r1 r2 → TabSt tl' → (∀ p ∈ tl', (∃ q ∈ ([(125, tabB k1 k2), (k1, o1), (k2, o2)] : List (Addr × Obj)), q.1 = p.1) ∨ (∀ q ∈ rest, @LT.lt Nat _ q.1 p.1) ∧ @LT.lt Nat _ rw p.1 ∧ @LT.lt Nat _ od p.1) →
    (∀ q ∈ rest, @LT.lt Nat _ q.1 D) → (∀ q ∈ tl', @LT.lt Nat _ q.1 D) → @LT.lt Nat _ rw D → @LT.lt Nat _ od D → Fr h₀ L h' m →
    News h₀ L h' (((D, tup2 r1 t1 r2 t2) :: (rw, listOf (List.toArray rs) c1) :: (od, listOf (List.toArray os) c2) :: tl') ++ rest) → Q (.ref D) { s with heap := h', toks := tk' })
    (KP : Kept rest g) (F' : Fr g L' h m') (NR : News h₀ L hs rest) (hRL : ∀ p ∈ rest, @LT.lt Nat _ p.1 L') (kF : Fr h₀ L h m)
    (kN : News h₀ L h ((D, tup2 r1 t1 r2 t2) :: (f2, lo2) :: (f1, lo1) :: e3 :: e2 :: e1 :: (rw, listOf (List.toArray rs) c1) :: (od, listOf (List.toArray os) c2) :: (125, tabB k1 k2) :: (k1, o1) :: (k2, o2) :: js))
    (hb : BndIn (fun i => cmpR fs b rb (oi i)) r1 r2) (a1 : o1.data = .fields v1) (a2 : v1[1]? = some (.str qualB tq1)) (a3 : o2.data = .fields v2) (a4 : v2[1]? = some (.str qualB tq2))
    (l0 : @LT.lt Nat _ rw L' ∧ @LT.lt Nat _ od L' ∧ @LT.lt Nat _ 125 L' ∧ @LT.lt Nat _ k1 L' ∧ @LT.lt Nat _ k2 L') (l3 : @LT.lt Nat _ L' D) : Q (.ref D) { s with heap := h, toks := tk } := by
  have hlt : ∀ q ∈ rest, ∀ z : Nat, L' < z → @LT.lt Nat _ q.1 z := fun q hq z hz => Nat.lt_trans (hRL q hq) hz
  obtain ⟨l01, l02, l03, l04, l05⟩ := l0
  refine hret D r1 r2 t1 t2 [(125, tabB k1 k2), (k1, o1), (k2, o2)] h tk hb (.inr ⟨_, _, _, _, _, _, _, _, rfl, a1, a2, a3, a4⟩) (fun p hp => .inl ⟨p, hp, rfl⟩) (fun q hq => hlt q hq _ l3) ?_ (Nat.lt_trans l01 l3) (Nat.lt_trans l02 l3) kF
    (news_more KP F' NR (news_sub kN ?_))
  · exact List.forall_mem_cons.mpr ⟨Nat.lt_trans l03 l3, List.forall_mem_cons.mpr ⟨Nat.lt_trans l04 l3, List.forall_mem_cons.mpr ⟨Nat.lt_trans l05 l3, List.forall_mem_nil _⟩⟩⟩
  · refine List.forall_mem_cons.mpr ⟨.head _, List.forall_mem_cons.mpr ⟨?_, List.forall_mem_cons.mpr ⟨?_, List.forall_mem_cons.mpr ⟨?_, List.forall_mem_cons.mpr ⟨?_, List.forall_mem_cons.mpr ⟨?_, List.forall_mem_nil _⟩⟩⟩⟩⟩⟩
    · (iterate 6 refine List.Mem.tail _ ?_); exact .head _
    · (iterate 7 refine List.Mem.tail _ ?_); exact .head _
    · (iterate 8 refine List.Mem.tail _ ?_); exact .head _
    · (iterate 9 refine List.Mem.tail _ ?_); exact .head _
    · (iterate 10 refine List.Mem.tail _ ?_); exact .head _
theorem bounds_A {w : World} {mean : ExcName → Option Value} {mg mb : Str → Option Value} (rest : List (Addr × Obj)) (rw od : Addr) (rs os : List Value) (c1 c2 : Nat) (b : Array UInt8) (fs : Str) (t t2 : Tok)
  (dp un : Nat) (gd : Option (List Code)) (cn : Str) (cs : Scope) (ca : Addr) (ccd : Value) (cl : List (Str × Addr)) (outer : List Env) (A₀ : Around) (base h₀ : Heap) (L : Addr) (m : Str → Option Value) (s : Shared) (Q E : Value → Shared → Prop)
  (B : Below A₀ base outer h₀) (F : Fr h₀ L s.heap m) (X : (hd.heap_1 w.params).In h₀) (N : News h₀ L s.heap [(rw, listOf (List.toArray rs) c1), (od, listOf (List.toArray os) c2), (125, tabObj #[])]) (NR : News h₀ L s.heap rest)
  (hdis : ∀ p ∈ rest, p.1 ∉ [(rw, listOf (List.toArray rs) c1), (od, listOf (List.toArray os) c2), (125, tabObj #[])].map (·.1)) (T : Top topProg LZ mean mg mb h₀) (hcs : cs.kind = .function) (hC : CodeHd base 129 125)
  (hb : b.size = 7) (h125r : @Ne Nat rw 125) (h125o : @Ne Nat od 125) (hro : @Ne Nat rw od)
  (rb : Nat → Array UInt8) (tb : Nat → Tok) (oi : Nat → Nat) (to : Nat → Tok) (hrs : ∀ k, k < 7 → rs[k]? = some (.bytes (rb k) (tb k)) ∧ (rb k).size = 7) (hos : ∀ i, i < 7 → os[i]? = some (.int (oi i : Nat) (to i)) ∧ oi i < 7) (hol : os.length = 7)
  (hm1 : ∀ i j, i < j → j < 7 → cmpB fs.cps.toList (bN b) (rb (oi j)) b [0, 1, 2, 3, 4, 5, 6] < 0 → cmpB fs.cps.toList (bN b) (rb (oi i)) b [0, 1, 2, 3, 4, 5, 6] < 0)
  (hm2 : ∀ i j, i < j → j < 7 → ¬ 0 < cmpB fs.cps.toList (bN b) (rb (oi j)) b [0, 1, 2, 3, 4, 5, 6] → ¬ 0 < cmpB fs.cps.toList (bN b) (rb (oi i)) b [0, 1, 2, 3, 4, 5, 6])
  (hdp : dp + 30 < recursionLimit) (hun : un + 8 * 30 < cLine)
  (hret : ∀ D (r1 r2 : Nat) t1 t2 tl' h' tk', BndIn (fun i => cmpR fs b rb (oi i)) r1 r2 → TabSt tl' → (∀ p ∈ tl', (∃ q ∈ ([(125, tabObj #[])] : List (Addr × Obj)), q.1 = p.1) ∨ (∀ q ∈ rest, @LT.lt Nat _ q.1 p.1) ∧ @LT.lt Nat _ rw p.1 ∧ @LT.lt Nat _ od p.1) →
    (∀ q ∈ rest, @LT.lt Nat _ q.1 D) → (∀ q ∈ tl', @LT.lt Nat _ q.1 D) → @LT.lt Nat _ rw D → @LT.lt Nat _ od D → Fr h₀ L h' m →
    News h₀ L h' (((D, tup2 r1 t1 r2 t2) :: (rw, listOf (List.toArray rs) c1) :: (od, listOf (List.toArray os) c2) :: tl') ++ rest) → Q (.ref D) { s with heap := h', toks := tk' }) :
  wpAny (model PG w) (ktrTop dp un gd cn cs L ca ccd cl outer) (call (.ref 130) [.ref rw, .ref od, .bytes b t, .str fs t2]) Q E s := by
  refine wpAny_call ?_
  k_dflt (refine' code_defC2 NR hdis ?k1 ?k2 ?k3 N ?k5 ?kA ?kF ?kK ?k6 ?k7 ?k8 ?k9 ?kB ?kD ?_ ?c2 ?c3 ?c4)
  (case kA => exact rfl)
  (case kF => exact rfl)
  (case kK => first | exact rfl | assumption)
  (case k1 => k_asm)
  (case k2 => k_asm)
  (case k3 => k_asm)
  (case k5 => k_asm)
  (case k6 => k_dflt k_is)
  (case k7 => k_dflt k_is)
  (case k8 => ktr_room)
  (case k9 => exact BindsTo.of_eq rfl)
  (case kB => exact rfl)
  (case kD => decide +kernel)
  (case c2 => exact rfl)
  (case c3 => exact rfl)
  (case c4 => exact rfl)
  intro g' L' h' tk' cells' KP hRL FG' F' N' Y' B' X' T' l1
  k_lt l1
  k_cells Y'
  simp only [List.cons_append, List.nil_append] at N'
  try dsimp only
  try k_fold
  k_steps
  refine wpAny_call ?_
  refine' bisL_C 12 _ od _ os c2 (fun i t => .int (cmpB fs.cps.toList (bN b) (rb (oi i)) b [0, 1, 2, 3, 4, 5, 6]) t) _ (fun i => decide (cmpB fs.cps.toList (bN b) (rb (oi i)) b [0, 1, 2, 3, 4, 5, 6] < 0)) _ _ _ _ _ _ _ _ _ _ _ _ _ _ _ _ _ _ ?cB ?cF ?cX ?cN ?cT ?cK ?x1 ?x2 ?x3 ?x4 ?x5 ?x6 ?x7 ?x8 ?cD ?cU ?_
  (((case cB => k_asm); (case cF => k_asm); (case cX => k_asm); (case cN => k_asm); (case cT => k_asm); (case cK => first | exact rfl | assumption); (case cD => ktr_room); (case cU => ktr_units)))
  (case x1 => k_dflt k_is)
  (case x2 =>
    refine' binds_K ?b0 ?b1 ?b2 ?b3 ?b4 ?b5
    (case b0 => k_in)
    (case b1 => rfl)
    (case b2 => k_dflt k_is)
    (case b3 => rfl)
    (case b4 => rfl)
    (case b5 => with_unfolding_all rfl))
  (case x3 => k_mem)
  (case x4 => exact ⟨_, _, _, _, by k_mem⟩)
  (case x5 => omega)
  (case x6 =>
    refine' lamB_131 hC ?qf ?qc ?qd1 ?qd2 ?q3 ?q3d ?q2 ?q2d ?q1 ?q1d ?qrw ?qm0 ?qm1 ?qm2 ?qm3 ?qm4 ?qm5 ?qm6 ?qm7 ?qm8 ?qm9 hrs hos hol hb
    (case qf => k_mem)
    (case qc => k_mem)
    (case qd1 => assumption)
    (case qd2 => assumption)
    (case q3 => k_mem)
    (case q3d => assumption)
    (case q2 => k_mem)
    (case q2d => assumption)
    (case q1 => k_mem)
    (case q1d => assumption)
    (case qrw => k_mem)
    (case qm0 => k_mem)
    (case qm1 => k_mem)
    (case qm2 => k_mem)
    (case qm3 => k_mem)
    (case qm4 => k_mem)
    (case qm5 => k_mem)
    (case qm6 => k_mem)
    (case qm7 => k_mem)
    (case qm8 => k_mem)
    (case qm9 => k_mem))
  (case x7 =>
    intro i hi t A E s Q hq
    exact lt_int hq)
  (case x8 =>
    intro i j h1 h2 h3
    simp only [decide_eq_true_eq] at h3 ⊢
    exact hm1 i j h1 (by omega) h3)
  intro r1 tr1 h1 tk1 hr1 hr2 hr3 F1 N1
  try dsimp only
  k_steps
  refine wpAny_call ?_
  refine' bisR_C 12 _ od _ os c2 (fun i t => .int (cmpB fs.cps.toList (bN b) (rb (oi i)) b [0, 1, 2, 3, 4, 5, 6]) t) _ (fun i => !(decide (0 < cmpB fs.cps.toList (bN b) (rb (oi i)) b [0, 1, 2, 3, 4, 5, 6]))) _ _ _ _ _ _ _ _ _ _ _ _ _ _ _ _ _ _ ?cB ?cF ?cX ?cN ?cT ?cK ?x1 ?x2 ?x3 ?x4 ?x5 ?x6 ?x7 ?x8 ?cD ?cU ?_
  (((case cB => k_asm); (case cF => k_asm); (case cX => k_asm); (case cN => k_asm); (case cT => k_asm); (case cK => first | exact rfl | assumption); (case cD => ktr_room); (case cU => ktr_units)))
  (case x1 => k_dflt k_is)
  (case x2 =>
    refine' binds_K ?b0 ?b1 ?b2 ?b3 ?b4 ?b5
    (case b0 => k_in)
    (case b1 => rfl)
    (case b2 => k_dflt k_is)
    (case b3 => rfl)
    (case b4 => rfl)
    (case b5 => with_unfolding_all rfl))
  (case x3 => k_mem)
  (case x4 => exact ⟨_, _, _, _, by k_mem⟩)
  (case x5 => omega)
  (case x6 =>
    refine' lamB_132 hC ?qf ?qc ?qd1 ?qd2 ?q3 ?q3d ?q2 ?q2d ?q1 ?q1d ?qrw ?qm0 ?qm1 ?qm2 ?qm3 ?qm4 ?qm5 ?qm6 ?qm7 ?qm8 ?qm9 hrs hos hol hb
    (case qf => k_mem)
    (case qc => k_mem)
    (case qd1 => assumption)
    (case qd2 => assumption)
    (case q3 => k_mem)
    (case q3d => assumption)
    (case q2 => k_mem)
    (case q2d => assumption)
    (case q1 => k_mem)
    (case q1d => assumption)
    (case qrw => k_mem)
    (case qm0 => k_mem)
    (case qm1 => k_mem)
    (case qm2 => k_mem)
    (case qm3 => k_mem)
    (case qm4 => k_mem)
    (case qm5 => k_mem)
    (case qm6 => k_mem)
    (case qm7 => k_mem)
    (case qm8 => k_mem)
    (case qm9 => k_mem))
  (case x7 =>
    intro i hi t A E s Q hq
    refine lt_int ?_
    rw [Bool.not_not] at hq
    exact hq)
  (case x8 =>
    intro i j h1 h2 h3
    simp only [Bool.not_eq_true', decide_eq_false_iff_not] at h3 ⊢
    exact hm2 i j h1 (by omega) h3)
  intro r2 tr2 h2 tk2 hs1 hs2 hs3 F2 N2
  try dsimp only
  k_steps
  refine' bnd_fin hret KP ?yF NR hRL ?yK ?yN ?yT ?y1 ?y2 ?y3 ?y4 (bndIn_of hol hr1 hs1 hr2 hr3 hs2 hs3) l1 ?z1 ?z2 ?z3
  (case yF => k_asm)
  (case yK => k_asm)
  (case yN => k_asm)
  (case yT => exact rfl)
  (case y1 => assumption)
  (case y2 => assumption)
  (case y3 => assumption)
  (case y4 => assumption)
  (case z1 => omega)
  (case z2 => omega)
  (case z3 => omega)
theorem bounds_B {w : World} {mean : ExcName → Option Value} {mg mb : Str → Option Value} (rest : List (Addr × Obj)) (rw od k1 k2 : Addr) (o1 o2 : Obj) (v1 v2 : Array Value) (tq1 tq2 : Tok) (rs os : List Value) (c1 c2 : Nat) (b : Array UInt8) (fs : Str) (t t2 : Tok)
  (dp un : Nat) (gd : Option (List Code)) (cn : Str) (cs : Scope) (ca : Addr) (ccd : Value) (cl : List (Str × Addr)) (outer : List Env) (A₀ : Around) (base h₀ : Heap) (L : Addr) (m : Str → Option Value) (s : Shared) (Q E : Value → Shared → Prop)
  (B : Below A₀ base outer h₀) (F : Fr h₀ L s.heap m) (X : (hd.heap_1 w.params).In h₀) (N : News h₀ L s.heap [(rw, listOf (List.toArray rs) c1), (od, listOf (List.toArray os) c2), (125, tabB k1 k2), (k1, o1), (k2, o2)]) (NR : News h₀ L s.heap rest)
  (hdis : ∀ p ∈ rest, p.1 ∉ [(rw, listOf (List.toArray rs) c1), (od, listOf (List.toArray os) c2), (125, tabB k1 k2), (k1, o1), (k2, o2)].map (·.1)) (T : Top topProg LZ mean mg mb h₀) (a1 : o1.data = .fields v1) (a2 : v1[1]? = some (.str qualB tq1)) (a3 : o2.data = .fields v2) (a4 : v2[1]? = some (.str qualB tq2)) (hcs : cs.kind = .function) (hC : CodeHd base 129 125)
  (hb : b.size = 7) (h125r : @Ne Nat rw 125) (h125o : @Ne Nat od 125) (hro : @Ne Nat rw od)
  (rb : Nat → Array UInt8) (tb : Nat → Tok) (oi : Nat → Nat) (to : Nat → Tok) (hrs : ∀ k, k < 7 → rs[k]? = some (.bytes (rb k) (tb k)) ∧ (rb k).size = 7) (hos : ∀ i, i < 7 → os[i]? = some (.int (oi i : Nat) (to i)) ∧ oi i < 7) (hol : os.length = 7)
  (hm1 : ∀ i j, i < j → j < 7 → cmpB fs.cps.toList (bN b) (rb (oi j)) b [0, 1, 2, 3, 4, 5, 6] < 0 → cmpB fs.cps.toList (bN b) (rb (oi i)) b [0, 1, 2, 3, 4, 5, 6] < 0)
  (hm2 : ∀ i j, i < j → j < 7 → ¬ 0 < cmpB fs.cps.toList (bN b) (rb (oi j)) b [0, 1, 2, 3, 4, 5, 6] → ¬ 0 < cmpB fs.cps.toList (bN b) (rb (oi i)) b [0, 1, 2, 3, 4, 5, 6])
  (hdp : dp + 30 < recursionLimit) (hun : un + 8 * 30 < cLine)
  (hret : ∀ D (r1 r2 : Nat) t1 t2 tl' h' tk', BndIn (fun i => cmpR fs b rb (oi i)) r1 r2 → TabSt tl' → (∀ p ∈ tl', (∃ q ∈ ([(125, tabB k1 k2), (k1, o1), (k2, o2)] : List (Addr × Obj)), q.1 = p.1) ∨ (∀ q ∈ rest, @LT.lt Nat _ q.1 p.1) ∧ @LT.lt Nat _ rw p.1 ∧ @LT.lt Nat _ od p.1) →
    (∀ q ∈ rest, @LT.lt Nat _ q.1 D) → (∀ q ∈ tl', @LT.lt Nat _ q.1 D) → @LT.lt Nat _ rw D → @LT.lt Nat _ od D → Fr h₀ L h' m →
    News h₀ L h' (((D, tup2 r1 t1 r2 t2) :: (rw, listOf (List.toArray rs) c1) :: (od, listOf (List.toArray os) c2) :: tl') ++ rest) → Q (.ref D) { s with heap := h', toks := tk' }) :
  wpAny (model PG w) (ktrTop dp un gd cn cs L ca ccd cl outer) (call (.ref 130) [.ref rw, .ref od, .bytes b t, .str fs t2]) Q E s := by
  refine wpAny_call ?_
  k_dflt (refine' code_defC2 NR hdis ?k1 ?k2 ?k3 N ?k5 ?kA ?kF ?kK ?k6 ?k7 ?k8 ?k9 ?kB ?kD ?_ ?c2 ?c3 ?c4)
  (case kA => exact rfl)
  (case kF => exact rfl)
  (case kK => first | exact rfl | assumption)
  (case k1 => k_asm)
  (case k2 => k_asm)
  (case k3 => k_asm)
  (case k5 => k_asm)
  (case k6 => k_dflt k_is)
  (case k7 => k_dflt k_is)
  (case k8 => ktr_room)
  (case k9 => exact BindsTo.of_eq rfl)
  (case kB => exact rfl)
  (case kD => decide +kernel)
  (case c2 => exact rfl)
  (case c3 => exact rfl)
  (case c4 => exact rfl)
  intro g' L' h' tk' cells' KP hRL FG' F' N' Y' B' X' T' l1
  k_lt l1
  k_cells Y'
  simp only [List.cons_append, List.nil_append] at N'
  try dsimp only
  try k_fold
  k_steps
  refine wpAny_call ?_
  refine' bisL_C 12 _ od _ os c2 (fun i t => .int (cmpB fs.cps.toList (bN b) (rb (oi i)) b [0, 1, 2, 3, 4, 5, 6]) t) _ (fun i => decide (cmpB fs.cps.toList (bN b) (rb (oi i)) b [0, 1, 2, 3, 4, 5, 6] < 0)) _ _ _ _ _ _ _ _ _ _ _ _ _ _ _ _ _ _ ?cB ?cF ?cX ?cN ?cT ?cK ?x1 ?x2 ?x3 ?x4 ?x5 ?x6 ?x7 ?x8 ?cD ?cU ?_
  (((case cB => k_asm); (case cF => k_asm); (case cX => k_asm); (case cN => k_asm); (case cT => k_asm); (case cK => first | exact rfl | assumption); (case cD => ktr_room); (case cU => ktr_units)))
  (case x1 => k_dflt k_is)
  (case x2 =>
    refine' binds_K ?b0 ?b1 ?b2 ?b3 ?b4 ?b5
    (case b0 => k_in)
    (case b1 => rfl)
    (case b2 => k_dflt k_is)
    (case b3 => rfl)
    (case b4 => rfl)
    (case b5 => with_unfolding_all rfl))
  (case x3 => k_mem)
  (case x4 => exact ⟨_, _, _, _, by k_mem⟩)
  (case x5 => omega)
  (case x6 =>
    refine' lamB_131 hC ?qf ?qc ?qd1 ?qd2 ?q3 ?q3d ?q2 ?q2d ?q1 ?q1d ?qrw ?qm0 ?qm1 ?qm2 ?qm3 ?qm4 ?qm5 ?qm6 ?qm7 ?qm8 ?qm9 hrs hos hol hb
    (case qf => k_mem)
    (case qc => k_mem)
    (case qd1 => assumption)
    (case qd2 => assumption)
    (case q3 => k_mem)
    (case q3d => assumption)
    (case q2 => k_mem)
    (case q2d => assumption)
    (case q1 => k_mem)
    (case q1d => assumption)
    (case qrw => k_mem)
    (case qm0 => k_mem)
    (case qm1 => k_mem)
    (case qm2 => k_mem)
    (case qm3 => k_mem)
    (case qm4 => k_mem)
    (case qm5 => k_mem)
    (case qm6 => k_mem)
    (case qm7 => k_mem)
    (case qm8 => k_mem)
    (case qm9 => k_mem))
  (case x7 =>
    intro i hi t A E s Q hq
    exact lt_int hq)
  (case x8 =>
    intro i j h1 h2 h3
    simp only [decide_eq_true_eq] at h3 ⊢
    exact hm1 i j h1 (by omega) h3)
  intro r1 tr1 h1 tk1 hr1 hr2 hr3 F1 N1
  try dsimp only
  k_steps
  refine wpAny_call ?_
  refine' bisR_C 12 _ od _ os c2 (fun i t => .int (cmpB fs.cps.toList (bN b) (rb (oi i)) b [0, 1, 2, 3, 4, 5, 6]) t) _ (fun i => !(decide (0 < cmpB fs.cps.toList (bN b) (rb (oi i)) b [0, 1, 2, 3, 4, 5, 6]))) _ _ _ _ _ _ _ _ _ _ _ _ _ _ _ _ _ _ ?cB ?cF ?cX ?cN ?cT ?cK ?x1 ?x2 ?x3 ?x4 ?x5 ?x6 ?x7 ?x8 ?cD ?cU ?_
  (((case cB => k_asm); (case cF => k_asm); (case cX => k_asm); (case cN => k_asm); (case cT => k_asm); (case cK => first | exact rfl | assumption); (case cD => ktr_room); (case cU => ktr_units)))
  (case x1 => k_dflt k_is)
  (case x2 =>
    refine' binds_K ?b0 ?b1 ?b2 ?b3 ?b4 ?b5
    (case b0 => k_in)
    (case b1 => rfl)
    (case b2 => k_dflt k_is)
    (case b3 => rfl)
    (case b4 => rfl)
    (case b5 => with_unfolding_all rfl))
  (case x3 => k_mem)
  (case x4 => exact ⟨_, _, _, _, by k_mem⟩)
  (case x5 => omega)
  (case x6 =>
    refine' lamB_132 hC ?qf ?qc ?qd1 ?qd2 ?q3 ?q3d ?q2 ?q2d ?q1 ?q1d ?qrw ?qm0 ?qm1 ?qm2 ?qm3 ?qm4 ?qm5 ?qm6 ?qm7 ?qm8 ?qm9 hrs hos hol hb
    (case qf => k_mem)
    (case qc => k_mem)
    (case qd1 => assumption)
    (case qd2 => assumption)
    (case q3 => k_mem)
    (case q3d => assumption)
    (case q2 => k_mem)
    (case q2d => assumption)
    (case q1 => k_mem)
    (case q1d => assumption)
    (case qrw => k_mem)
    (case qm0 => k_mem)
    (case qm1 => k_mem)
    (case qm2 => k_mem)
    (case qm3 => k_mem)
    (case qm4 => k_mem)
    (case qm5 => k_mem)
    (case qm6 => k_mem)
    (case qm7 => k_mem)
    (case qm8 => k_mem)
    (case qm9 => k_mem))
  (case x7 =>
    intro i hi t A E s Q hq
    refine lt_int ?_
    rw [Bool.not_not] at hq
    exact hq)
  (case x8 =>
    intro i j h1 h2 h3
    simp only [Bool.not_eq_true', decide_eq_false_iff_not] at h3 ⊢
    exact hm2 i j h1 (by omega) h3)
  intro r2 tr2 h2 tk2 hs1 hs2 hs3 F2 N2
  try dsimp only
  k_steps
  refine' bnd_finB hret KP ?yF NR hRL ?yK ?yN (bndIn_of hol hr1 hs1 hr2 hr3 hs2 hs3) a1 a2 a3 a4 l1 ?z1
  (case yF => k_asm)
  (case yK => k_asm)
  (case yN => k_asm)
  (case z1 => omega)
def CellsB (n : Nat) (cs : List Int) : Prop := ∀ c ∈ cs, 0 ≤ c ∧ c ≤ 7 + 1000000 * (n : Int)
theorem cells_start : (0 : Int) = (([] : List Int).length : Int) ∧ ([0, 5, 4, 4, 3, 5, 7] : List Int).length = 7 ∧ CellsB ([] : List Int).length [0, 5, 4, 4, 3, 5, 7] := by
  refine ⟨rfl, rfl, ?_⟩
  intro c hc
  simp only [List.mem_cons, List.not_mem_nil, or_false] at hc
  rw [List.length_nil]; omega
theorem cells_step {p n : Int} {pre cs : List Int} (hp : p = (pre.length : Int)) (hl : cs.length = 7) (h : CellsB pre.length cs) :
    p + 1 = ((pre ++ [n]).length : Int) ∧ (cs.set (p.fmod 7).toNat (cs.getD (p.fmod 7).toNat 0 + n.fmod 1000000)).length = 7 ∧ CellsB (pre ++ [n]).length (cs.set (p.fmod 7).toNat (cs.getD (p.fmod 7).toNat 0 + n.fmod 1000000)) := by
  refine ⟨by rw [hp, List.length_append, List.length_singleton]; omega, by rw [List.length_set, hl], ?_⟩
  intro c hc
  have h1 := Int.fmod_nonneg_of_pos n (b := 1000000) (by decide)
  have h2 := Int.fmod_lt_of_pos n (b := 1000000) (by decide)
  rw [List.length_append, List.length_singleton]
  rcases List.mem_or_eq_of_mem_set hc with hm | rfl
  · have := h c hm; omega
  · have h3 : 0 ≤ cs.getD (p.fmod 7).toNat 0 ∧ cs.getD (p.fmod 7).toNat 0 ≤ 7 + 1000000 * (pre.length : Int) := by
      rw [List.getD_eq_getElem?_getD]
      cases e : cs[(p.fmod 7).toNat]? with
      | none => exact ⟨by decide, by simp only [Option.getD_none]; omega⟩
      | some v => exact h v (List.mem_of_getElem? e)
    omega
theorem cells_le {n k : Nat} {cs : List Int} (h : CellsB n cs) (hk : n ≤ k) : CellsB k cs := fun c hc => by have := h c hc; omega
theorem cells_C {w : World} {mean : ExcName → Option Value} {mg mb : Str → Option Value} (news : List (Addr × Obj)) (sc : Addr) (vs : List Value) (ns : List Int) (hI : IntsAre vs ns)
  (dp un : Nat) (gd : Option (List Code)) (cn : Str) (cs : Scope) (a : Addr) (ccd : Value) (cl : List (Str × Addr)) (outer : List Env) (A₀ : Around) (base h₀ : Heap) (L : Addr) (m : Str → Option Value) (s : Shared) (Q E : Value → Shared → Prop)
  (B : Below A₀ base outer h₀) (F : Fr h₀ L s.heap m) (X : (hd.heap_1 w.params).In h₀) (N : News h₀ L s.heap news) (T : Top topProg LZ mean mg mb h₀) (hcs : cs.kind = .function)
  (hl : h₀.IsList sc vs.toArray) (hlen : ns.length ≤ 63) (hdp : dp + 6 < recursionLimit) (hun : un + 8 * 6 < cLine)
  (hret : ∀ l us ks cnt h' tk', IntsAre us ks → ks.length = 7 → CellsB 63 ks → Fr h₀ L h' m → News h₀ L h' ((l, listOf (List.toArray us) cnt) :: news) → (∀ p ∈ news, p.1 < l) → Q (.ref l) { s with heap := h', toks := tk' }) :
  wpAny (model PG w) (ktrTop dp un gd cn cs L a ccd cl outer) (call (.ref 97) [.ref sc]) Q E s := by
  refine wpAny_call ?_
  k_dflt cell_enter
  (rename Fr h₀ _ _ _ => FG9)
  have hl2 := Heap.IsList.at hl (fun o e => FG9.keep _ _ e)
  k_with "pyIter ref" => k_state (fun pre place cells => place = (pre.length : Int) ∧ cells.length = 7 ∧ CellsB pre.length cells) "place" "cells"
  k_with "state" => first | with_reducible exact cells_start | exact cells_step (by assumption) (by assumption) (by assumption)
  k_steps
  refine hret _ _ _ _ _ _ (by assumption) (by assumption) (cells_le (by assumption) (by rw [List.length_take]; omega)) (by k_asm) (news_sub (by k_asm) fun p hp => List.mem_cons_of_mem _ hp) (by assumption)
section
variable {w : World} {A : Around} {E : Value → Shared → Prop} {s : Shared} {env : Env} {h₀ : Heap} {x : Str} {body : List Stmt} {Q : Flow → Shared → Prop}
/-- over a range that was just made, by any step -/
theorem forRangeG {r : Addr} {a₀ b₀ d : Int} {t₀ u₀ v₀ : Tok} {n : Nat} {m₀ : Str → Option Value} {news : List (Addr × Obj)} (J : Nat → (Str → Option Value) → List (Addr × Obj) → Prop)
    (hh : A.handled = none) (hr : IsRange s.heap r a₀ b₀ d t₀ u₀ v₀) (hsmall : Builtin.Range.small a₀ b₀ d = true) (hn : Builtin.Range.rangeSize a₀ b₀ d = (n : Int))
    (F : Fr h₀ env.locals s.heap m₀) (N : News h₀ env.locals s.heap news) (hj : J 0 m₀ news)
    (turn : ∀ (i : Nat) t m₁ news₁ I io h tk, i < n → J i m₁ news₁ → (∀ p ∈ news₁, p.1 ≠ I) → Fr h₀ env.locals h (fun y => if y = x then some (.int (a₀ + i * d) t) else m₁ y) → News h₀ env.locals h ((I, io) :: news₁) →
      wpAny (model PG w) A (execs body env) (TurnQ h₀ env.locals I io (J (i + 1)) { s with heap := h, toks := tk } Q) E { s with heap := h, toks := tk })
    (done : ∀ m₁ news₁ h tk, J n m₁ news₁ → Fr h₀ env.locals h m₁ → News h₀ env.locals h news₁ → Q .next { s with heap := h, toks := tk }) :
    wpAny (model PG w) A (pyIter (.ref r)) (fun it s₂ => LoopAtV PG w A h₀ env x body Q E it s₂) E s := by
  refine wpAny_pyIter_range hr hsmall ?_
  have W := Walks.range (prog := PG) (w := w) hh s.heap.objs.size a₀ d n
  refine forJ J W ?_ ?_ ?_ ?_ (F.push _) (fun p hp => ⟨Heap.get?_push_of_some _ (N p hp).1, (N p hp).2⟩) hj ?_ ?_ ?_
  · exact fun e => absurd F.ns.lt (by rw [e]; exact Nat.lt_irrefl _)
  · exact next_is_new F
  · exact fun p hp e => absurd (Heap.lt_size (N p hp).1) (by rw [e]; exact Nat.lt_irrefl _)
  · show IsRangeIter _ _ _ _ _
    rw [hn]; simpa using Heap.get?_push_size _ rfl
  · exact fun i h hst => ⟨_, hst⟩
  · rintro i v m₁ news₁ io h tk hi ⟨t, rfl⟩ hJ hne F₁ N₁ hst
    exact turn i t m₁ news₁ _ io h tk hi hJ hne F₁ N₁
  · exact done
/-- one object of the ledger is changed turn by turn; the frame's names x and y are stored -/
def OJ (l : Addr) (rest : List (Addr × Obj)) (m₀ : Str → Option Value) (x y : Str) (S : Nat → Obj → Prop) (i : Nat) (m : Str → Option Value) (nw : List (Addr × Obj)) : Prop :=
  ∃ o xv yv, nw = (l, o) :: rest ∧ S i o ∧ m = fun z => if z = x then xv else if z = y then yv else m₀ z
theorem forObj {l r : Addr} {o₀ : Obj} {rest : List (Addr × Obj)} {a₀ b₀ d : Int} {t₀ u₀ v₀ : Tok} {m₀ : Str → Option Value} (n : Nat) (y : Str) (S : Nat → Obj → Prop)
    (hh : A.handled = none) (hr : IsRange s.heap r a₀ b₀ d t₀ u₀ v₀) (hsmall : Builtin.Range.small a₀ b₀ d = true) (hn : Builtin.Range.rangeSize a₀ b₀ d = (n : Int))
    (F : Fr h₀ env.locals s.heap m₀) (N : News h₀ env.locals s.heap ((l, o₀) :: rest)) (hS : S 0 o₀)
    (turn : ∀ (i : Nat) t yv o I io h tk, i < n → S i o → @Ne Nat l I → (∀ p ∈ rest, p.1 ≠ I) → Fr h₀ env.locals h (fun z => if z = x then some (.int (a₀ + i * d) t) else if z = y then yv else m₀ z) → News h₀ env.locals h ((I, io) :: (l, o) :: rest) →
      wpAny (model PG w) A (execs body env) (TurnQ h₀ env.locals I io (OJ l rest m₀ x y S (i + 1)) { s with heap := h, toks := tk } Q) E { s with heap := h, toks := tk })
    (done : ∀ o xv yv h tk, S n o → Fr h₀ env.locals h (fun z => if z = x then xv else if z = y then yv else m₀ z) → News h₀ env.locals h ((l, o) :: rest) → Q .next { s with heap := h, toks := tk }) :
    wpAny (model PG w) A (pyIter (.ref r)) (fun it s₂ => LoopAtV PG w A h₀ env x body Q E it s₂) E s := by
  refine forRangeG (n := n) (OJ l rest m₀ x y S) hh hr hsmall hn F N ?_ ?_ ?_
  · refine ⟨o₀, m₀ x, m₀ y, rfl, hS, ?_⟩
    funext z
    by_cases h1 : z = x
    · rw [if_pos h1, h1]
    · rw [if_neg h1]
      by_cases h2 : z = y
      · rw [if_pos h2, h2]
      · rw [if_neg h2]
  · rintro i t m₁ news₁ I io h tk hi ⟨o, xv, yv, rfl, hS, rfl⟩ hne F₁ N₁
    refine turn i t yv o I io h tk hi hS (hne _ (List.Mem.head _)) (fun p hp => hne p (List.mem_cons_of_mem _ hp)) ?_ N₁
    have e : (fun z => if z = x then some (Value.int (a₀ + i * d) t) else (fun z => if z = x then xv else if z = y then yv else m₀ z) z) = fun z => if z = x then some (Value.int (a₀ + i * d) t) else if z = y then yv else m₀ z := by
      funext z
      by_cases h1 : z = x
      · simp only [if_pos h1]
      · simp only [if_neg h1]
    rw [e] at F₁
    exact F₁
  · rintro m₁ news₁ h tk ⟨o, xv, yv, rfl, hS, rfl⟩ F₁ N₁
    exact done o xv yv h tk hS F₁ N₁
/-- a turn's end under forObj -/
theorem OJ_end {h' : Heap} {L I l : Addr} {io o : Obj} {rest nw : List (Addr × Obj)} {i tk' : Nat} {x y : Str} {S : Nat → Obj → Prop} {m₀ m' : Str → Option Value} {s : Shared}
    (F : Fr h₀ L h' m') (N : News h₀ L h' nw) (h1 : (I, io) ∈ nw) (h2 : (l, o) ∈ nw) (h3 : ∀ p ∈ rest, p ∈ nw) (d1 : @Ne Nat l I) (d2 : ∀ p ∈ rest, p.1 ≠ I) (hS : S (i + 1) o)
    (hm : ∀ z, z ≠ x → z ≠ y → m' z = m₀ z) : TurnQ h₀ L I io (OJ l rest m₀ x y S (i + 1)) s Q .next { s with heap := h', toks := tk' } := by
  refine ⟨h', tk', m', (l, o) :: rest, rfl, F, ?_, ?_, o, m' x, m' y, rfl, hS, ?_⟩
  · refine news_sub N ?_
    intro p hp
    simp only [List.mem_cons] at hp
    rcases hp with rfl | rfl | h
    · exact h1
    · exact h2
    · exact h3 p h
  · intro p hp
    rcases List.mem_cons.mp hp with rfl | h
    · exact d1
    · exact d2 p h
  · funext z
    by_cases e1 : z = x
    · rw [if_pos e1, e1]
    · rw [if_neg e1]
      by_cases e2 : z = y
      · rw [if_pos e2, e2]
      · rw [if_neg e2, hm z e1 e2]
end
def IntsOb (P : Nat → List Int → Prop) (i : Nat) (o : Obj) : Prop := ∃ us cnt ks, o = listOf (List.toArray us) cnt ∧ IntsAre us ks ∧ P i ks
noncomputable def rowR (x : Str) (b : Nat) (n : Nat) : List Int := (List.range n).map fun (t : Nat) => ((chM x (b : Int) (6 - (t : Int)) : Nat) : Int)
noncomputable def rowsR (x : Str) (n : Nat) : List Int := (List.range n).flatMap fun b => rowR x b 7
theorem rowR_len (x : Str) (b n : Nat) : (rowR x b n).length = n := by simp [rowR]
theorem rowR_snoc (x : Str) (b n : Nat) : rowR x b (n + 1) = rowR x b n ++ [((chM x (b : Int) (6 - (n : Int)) : Nat) : Int)] := by simp [rowR, List.range_succ]
theorem rowsR_snoc (x : Str) (n : Nat) : rowsR x (n + 1) = rowsR x n ++ rowR x n 7 := by simp [rowsR, List.range_succ]
theorem rowsR_len (x : Str) : ∀ n : Nat, (rowsR x n).length = 7 * n
  | 0 => rfl
  | n + 1 => by rw [rowsR_snoc, List.length_append, rowsR_len x n, rowR_len]; omega
theorem ints_snoc {us : List Value} {ks : List Int} {k : Int} {t : Tok} (h : IntsAre us ks) : IntsAre (us ++ [.int k t]) (ks ++ [k]) := h.append (by constructor; constructor)
theorem news_swap {h₀ h : Heap} {L : Addr} {a b : Addr × Obj} {t : List (Addr × Obj)} (N : News h₀ L h (a :: b :: t)) : News h₀ L h (b :: a :: t) := fun p hp => N p (by
  simp only [List.mem_cons] at hp ⊢
  rcases hp with h | h | h
  · exact .inr (.inl h)
  · exact .inl h
  · exact .inr (.inr h))
theorem size_up (n : Nat) : Builtin.Range.rangeSize 0 (n : Int) 1 = (n : Int) := by
  unfold Builtin.Range.rangeSize
  rw [if_pos (by decide)]
  split <;> omega
theorem small_up {n : Nat} (h : n ≤ 1000) : Builtin.Range.small 0 (n : Int) 1 = true := by
  unfold Builtin.Range.small
  rw [size_up]
  unfold Builtin.Range.rangeFitsLong
  rw [if_pos (show (1 : Int) > 0 by decide)]
  simp only [Bool.and_eq_true, Bool.or_eq_true, decide_eq_true_eq, beq_iff_eq]
  omega
theorem intsOb_push {P : Nat → List Int → Prop} {i c : Nat} {us : List Value} {ks : List Int} {k : Int} {t : Tok} (h : IntsAre us ks) (hp : P i (ks ++ [k])) : IntsOb P i (listOf (us.toArray.push (.int k t)) c) :=
  ⟨us ++ [.int k t], c, _, by simp, ints_snoc h, hp⟩
theorem line_step {x : Str} {i j : Nat} {ks pre : List Int} {e : Int} (hP : ks = pre ++ rowR x i j) (he : e = (i : Int) + (6 - (j : Int))) : ks ++ [((chA x (e.fmod x.length) : Nat) : Int)] = pre ++ rowR x i (j + 1) := by
  subst he
  rw [hP, rowR_snoc, List.append_assoc]
theorem isM_in {c : Nat} (h : isM c) : 0 ≤ (c : Int) ∧ (c : Int) < 256 := by rcases h with rfl | rfl | rfl <;> decide
theorem rowsR_in {x : Str} (hx : ∀ c ∈ x.cps.toList, isM c) (h1 : 1 ≤ x.length) (n : Nat) : ∀ k ∈ rowsR x n, 0 ≤ k ∧ k < 256 := by
  intro k hk
  simp only [rowsR, rowR, List.mem_flatMap, List.mem_map] at hk
  obtain ⟨b, _, t, _, rfl⟩ := hk
  have hf := fmod_in (a := (b : Int) + (6 - (t : Int))) h1
  exact isM_in (chA_isM hx hf.1 hf.2)
theorem byteArr_bN {ks : List Int} (h : ∀ n ∈ ks, 0 ≤ n ∧ n < 256) : (bN (byteArr ks)).map (fun (n : Nat) => (n : Int)) = ks := by
  unfold bN byteArr
  simp only [List.map_map]
  refine (List.map_congr_left (g := id) fun n hn => ?_).trans (List.map_id _)
  have h1 := h n hn
  simp only [Function.comp, id]
  rw [show n.toNat.toUInt8.toNat = n.toNat % 256 from rfl]
  omega
theorem news_whole {h₀ g h h₁ : Heap} {L L' : Addr} {m' : Str → Option Value} {own own' news : List (Addr × Obj)} (N₁ : News h₀ L h₁ news) (hsub : ∀ p ∈ own, p ∈ news) (KP : Kept (restOf own news) g) (F' : Fr g L' h m') (kN : News h₀ L h own') (hk : ∀ p ∈ own, p ∈ own') : News h₀ L h news := by
  have N2 := news_back N₁ hsub hk (news_more KP F' (news_sub N₁ restOf_sub) kN)
  exact news_sub N2 fun p hp => List.mem_append_right _ hp
theorem line_C {w : World} {mean : ExcName → Option Value} {mg mb : Str → Option Value} (news : List (Addr × Obj)) (lr : Addr) (x y : Str) (t0 t1 : Tok) (c : Nat)
  (hx : ∀ c ∈ x.cps.toList, isM c) (hy : ∀ c ∈ y.cps.toList, isM c) (hx1 : 1 ≤ x.length) (hx2 : x.length ≤ 100) (hy1 : 1 ≤ y.length) (hy2 : y.length ≤ 100)
  (dp un : Nat) (gd : Option (List Code)) (cn : Str) (cs : Scope) (a : Addr) (ccd : Value) (cl : List (Str × Addr)) (outer : List Env) (A₀ : Around) (base h₀ : Heap) (L : Addr) (m : Str → Option Value) (s : Shared) (Q E : Value → Shared → Prop)
  (B : Below A₀ base outer h₀) (F : Fr h₀ L s.heap m) (X : (hd.heap_1 w.params).In h₀) (N : News h₀ L s.heap news) (T : Top topProg LZ mean mg mb h₀) (hcs : cs.kind = .function)
  (hr : (lr, listOf #[.str x t0, .str y t1] c) ∈ news) (hdp : dp + 6 < recursionLimit) (hun : un + 8 * 6 < cLine)
  (hret : ∀ b t h' tk', (bN b).map (fun (n : Nat) => (n : Int)) = rowsR x x.length ++ rowsR y y.length → Fr h₀ L h' m → News h₀ L h' news → Q (.bytes b t) { s with heap := h', toks := tk' }) :
  wpAny (model PG w) (ktrTop dp un gd cn cs L a ccd cl outer) (call (.ref 104) [.ref lr]) Q E s := by
  refine wpAny_call ?_
  have hsub : ∀ p ∈ [(lr, listOf #[.str x t0, .str y t1] c)], p ∈ news := fun p hp => by rw [List.mem_singleton.mp hp]; exact hr
  have NO := news_sub N hsub
  k_dflt (refine' code_def2 (news_sub N restOf_sub) restOf_dis ?k1 ?k2 ?k3 NO ?k5 ?kA ?kF ?kK ?k6 ?k7 ?k8 ?k9 ?kB ?_ ?c2 ?c3 ?c4 ?c5)
  (case kA => exact rfl)
  (case kF => exact rfl)
  (case kK => first | exact rfl | assumption)
  (case k1 => k_asm)
  (case k2 => k_asm)
  (case k3 => k_asm)
  (case k5 => k_asm)
  (case k6 => k_dflt k_is)
  (case k7 => k_dflt k_is)
  (case k8 => ktr_room)
  (case k9 => exact BindsTo.of_eq rfl)
  (case c5 => decide)
  (case kB => exact locs rfl)
  (case c2 => exact rfl)
  (case c3 => exact rfl)
  (case c4 => exact rfl)
  intro g' L' h' KP hRL FG' F' N' B' X' T' hOL
  k_lt hOL
  try dsimp only
  k_lift B'
  try k_fold
  (repeat' (first | (k_unfold; (try dsimp only)) | (k_end; wrow_close) | ((fail_if_success (with_reducible show wpAny _ _ (pyIter _) _ _ _)); walk1) | (dsimp only; (fail_if_success (with_reducible show wpAny _ _ (pyIter _) _ _ _)); walk1)))
  walk1
  (repeat' (first | (k_unfold; (try dsimp only)) | (k_end; wrow_close) | ((fail_if_success (with_reducible show wpAny _ _ (pyIter _) _ _ _)); walk1) | (dsimp only; (fail_if_success (with_reducible show wpAny _ _ (pyIter _) _ _ _)); walk1)))
  refine' forObj x.length (Str.ofString "back") (IntsOb fun i ks => ks = rowsR x i) ?e1 ?e2 ?e3 ?e4 ?e5 ?e6 ?e7 ?_ ?_
  (case e1 => rfl)
  (case e2 => k_asm)
  (case e3 => exact small_up (by omega))
  (case e4 => exact size_up _)
  (case e5 => k_asm)
  (case e6 => exact news_swap (by k_asm))
  (case e7 => exact ⟨[], 0, [], rfl, by constructor, rfl⟩)
  · intro i ti yv o I io h1 tk1 hi hS hd1 hd2 F1 N1
    obtain ⟨us, cnt, ks, rfl, hI, hP⟩ := hS
    have hul : us.length = 7 * i := by rw [hI.length, hP, rowsR_len]
    (repeat' (first | (k_unfold; (try dsimp only)) | (k_end; wrow_close) | ((fail_if_success (with_reducible show wpAny _ _ (pyIter _) _ _ _)); walk1) | (dsimp only; (fail_if_success (with_reducible show wpAny _ _ (pyIter _) _ _ _)); walk1)))
    refine' forObj 7 (Str.ofString "back") (IntsOb fun j ks => ks = rowsR x i ++ rowR x i j) ?e1 ?e2 ?e3 ?e4 ?e5 ?e6 ?e7 ?_ ?_
    (case e1 => rfl)
    (case e2 => k_asm)
    (case e3 => decide)
    (case e4 => decide)
    (case e5 => k_asm)
    (case e6 => exact news_swap (by k_asm))
    (case e7 => exact ⟨us, cnt, ks, rfl, hI, by rw [hP]; simp [rowR]⟩)
    · intro j tj yv2 o2 I2 io2 h2 tk2 hj hS2 hd3 hd4 F2 N2
      obtain ⟨us2, cnt2, ks2, rfl, hI2, hP2⟩ := hS2
      have hul2 : us2.length = 7 * i + j := by rw [hI2.length, hP2, List.length_append, rowsR_len, rowR_len]
      k_steps
      exact OJ_end (by k_asm) (by k_asm) (.head _) (.tail _ (.head _)) (fun p hp => .tail _ (.tail _ hp)) hd3 hd4 (intsOb_push hI2 (line_step hP2 (by omega))) (fun z e1 e2 => by simp only [if_neg e1])
    · intro o3 xv3 yv3 h3 tk3 hS3 F3 N3
      obtain ⟨us3, cnt3, ks3, rfl, hI3, hP3⟩ := hS3
      k_steps
      exact OJ_end (by k_asm) (by k_asm) (.tail _ (.head _)) (.head _) (fun p hp => .tail _ (.tail _ hp)) hd1 hd2 ⟨us3, cnt3, ks3, rfl, hI3, by rw [hP3, ← rowsR_snoc]⟩ (fun z e1 e2 => by simp only [if_neg e1, if_neg e2])
  · intro o3 xv3 yv3 h3 tk3 hS3 F3 N3
    obtain ⟨us3, cnt3, ks3, rfl, hI3, hP3⟩ := hS3
    have hul3 : us3.length = 7 * x.length := by rw [hI3.length, hP3, rowsR_len]
    (repeat' (first | (k_unfold; (try dsimp only)) | (k_end; wrow_close) | ((fail_if_success (with_reducible show wpAny _ _ (pyIter _) _ _ _)); walk1) | (dsimp only; (fail_if_success (with_reducible show wpAny _ _ (pyIter _) _ _ _)); walk1)))
    refine' forObj y.length (Str.ofString "back") (IntsOb fun i ks => ks = rowsR x x.length ++ rowsR y i) ?e1 ?e2 ?e3 ?e4 ?e5 ?e6 ?e7 ?_ ?_
    (case e1 => rfl)
    (case e2 => k_asm)
    (case e3 => exact small_up (by omega))
    (case e4 => exact size_up _)
    (case e5 => k_asm)
    (case e6 => exact news_swap (by k_asm))
    (case e7 => exact ⟨us3, cnt3, ks3, rfl, hI3, by rw [hP3]; simp [rowsR]⟩)
    · intro i ti yv o I io h1 tk1 hi hS hd1 hd2 F1 N1
      obtain ⟨us, cnt, ks, rfl, hI, hP⟩ := hS
      have hul : us.length = 7 * x.length + 7 * i := by rw [hI.length, hP, List.length_append, rowsR_len, rowsR_len]
      (repeat' (first | (k_unfold; (try dsimp only)) | (k_end; wrow_close) | ((fail_if_success (with_reducible show wpAny _ _ (pyIter _) _ _ _)); walk1) | (dsimp only; (fail_if_success (with_reducible show wpAny _ _ (pyIter _) _ _ _)); walk1)))
      refine' forObj 7 (Str.ofString "back") (IntsOb fun j ks => ks = (rowsR x x.length ++ rowsR y i) ++ rowR y i j) ?e1 ?e2 ?e3 ?e4 ?e5 ?e6 ?e7 ?_ ?_
      (case e1 => rfl)
      (case e2 => k_asm)
      (case e3 => decide)
      (case e4 => decide)
      (case e5 => k_asm)
      (case e6 => exact news_swap (by k_asm))
      (case e7 => exact ⟨us, cnt, ks, rfl, hI, by rw [hP]; simp [rowR]⟩)
      · intro j tj yv2 o2 I2 io2 h2 tk2 hj hS2 hd3 hd4 F2 N2
        obtain ⟨us2, cnt2, ks2, rfl, hI2, hP2⟩ := hS2
        have hul2 : us2.length = 7 * x.length + 7 * i + j := by rw [hI2.length, hP2, List.length_append, List.length_append, rowsR_len, rowsR_len, rowR_len]
        k_steps
        exact OJ_end (by k_asm) (by k_asm) (.head _) (.tail _ (.head _)) (fun p hp => .tail _ (.tail _ hp)) hd3 hd4 (intsOb_push hI2 (line_step hP2 (by omega))) (fun z e1 e2 => by simp only [if_neg e1])
      · intro o4 xv3 yv3 h3 tk3 hS3 F3 N3
        obtain ⟨us3, cnt3, ks3, rfl, hI3, hP3⟩ := hS3
        k_steps
        exact OJ_end (by k_asm) (by k_asm) (.tail _ (.head _)) (.head _) (fun p hp => .tail _ (.tail _ hp)) hd1 hd2 ⟨us3, cnt3, ks3, rfl, hI3, by show _ = rowsR x x.length ++ rowsR y (i + 1); rw [rowsR_snoc, ← List.append_assoc, hP3]⟩ (fun z e1 e2 => by simp only [if_neg e1, if_neg e2])
    · intro o5 xv5 yv5 h5 tk5 hS5 F5 N5
      obtain ⟨us5, cnt5, ks5, rfl, hI5, hP5⟩ := hS5
      have hul5 : us5.length = 7 * x.length + 7 * y.length := by rw [hI5.length, hP5, List.length_append, rowsR_len, rowsR_len]
      k_steps
      have hr5 : ∀ n ∈ ks5, 0 ≤ n ∧ n < 256 := by
        rw [hP5]
        intro n hn
        rcases List.mem_append.mp hn with h | h
        · exact rowsR_in hx (by omega) _ n h
        · exact rowsR_in hy (by omega) _ n h
      refine call_bytes_ints (News.isList (by k_asm) (.head _)) hI5 hr5 (by rw [sizeLine_eq]; omega) rfl ?_
      intro h6 t6 k6 hk6
      (rename Fr g' _ _ _ => F6)
      (rename News g' _ _ _ => N6)
      have F7 := F6.keeps hk6
      have N7 : News _ _ h6 _ := fun p hp => ⟨hk6 _ _ (N6 p hp).1, (N6 p hp).2⟩
      clear F6 N6
      k_steps
      refine' hret _ _ _ _ ((byteArr_bN hr5).trans hP5) ?z1 (news_whole N hsub KP ?z2 ?z3 ?z4)
      (case z1 => k_asm)
      (case z2 => k_asm)
      (case z3 => k_asm)
      (case z4 => exact fun p hp => .tail _ hp)
section
variable {M : Model} {A : Around} {E : Value → Shared → Prop} {s : Shared} {env : Env}
theorem wpN_Assign_Name {x pos' value pos} {Q : Flow → Shared → Prop} (h : wpN M A (eval value env) (fun v s₁ => wpAny M A (storeName env x v) (fun _ => Q .next) E s₁) E s)
    (hs : swapsWith value (some (.Name x pos')) pos.line env = pure false := by rfl) : wpN M A (exec (.Assign [.Name x pos'] value pos) env) Q E s := fun Γ p hΓ h1 h2 => by
  simp only [exec_Assign_Name env x pos' value pos hs, Sem.wp_bind', Sem.wp_cmd_standAt, Sem.wp_bindName, Sem.wp_pure']
  exact Sem.wp_mono M Γ _ (fun v _ s₁ h₁ => h₁ Γ _ hΓ) (fun _ _ _ h' => h') _ _ (h Γ _ hΓ h1 h2)
def NameN (M : Model) (A : Around) (pos : Pos) (f : Value) (trees : List (Bool × Sem Value)) (Q : Value → Shared → Prop) (E : Value → Shared → Prop) (v : Value) (s₁ : Shared) : Prop := v = f ∧ wpN M A (callWith pos f [] trees []) Q E s₁
theorem wpN_Call_Name {x : Str} {p pos : Pos} {args : List Expr} {trees : List (Bool × Sem Value)} {Q : Value → Shared → Prop} (f : Value) (ht : backTo pos (starEach args env) = trees)
    (h : wpAny M A (eval (.Name x p) env) (NameN M A pos f trees Q E) E s) : wpN M A (eval (.Call (.Name x p) args [] pos) env) Q E s := by
  subst ht
  exact wpN_bind (m := eval (.Name x p) env) (wpN_of (wpAny_mono h (fun v s₁ h₁ => by obtain ⟨rfl, h₁⟩ := h₁; exact h₁) fun _ _ x => x))
def ArgsN (M : Model) (A : Around) (f : Value) (Q : Value → Shared → Prop) (E : Value → Shared → Prop) (vs : List Value) (s₁ : Shared) : Prop := (∀ a, f = .ref a → FnAt a s₁.heap) ∧ wpN M A (call f vs) Q E s₁
theorem wpN_tail {t : Sem Value} {Q : Value → Shared → Prop} (ht : wpN M A t Q E s) : wpN M A (t >>= fun r => holding [r] point >>= fun _ => pure r) Q E s :=
  wpN_bind (wpN_mono ht (fun r s₂ hr => wpN_of (wpAny_bind (wpAny_holding (wpAny_point (wpAny_pure hr))))) fun _ _ x => x)
theorem wpN_callWith_fn {pos : Pos} {a : Addr} {x : Sem Value} {rest : List (Bool × Sem Value)} {Q : Value → Shared → Prop} (hp : rest.any (·.1) = false) (hl : (rest.length ≤ 20))
    (h : wpAny M A (spliced ((false, x) :: rest)) (ArgsN M A (.ref a) Q E) E s) : wpN M A (callWith pos (.ref a) [] ((false, x) :: rest) []) Q E s := by
  unfold callWith
  refine wpN_bind (wpN_of (wpAny_holding (Calls.evalArgs_plain (wpAny_mono h (fun vs s₁ h₁ => ?_) fun _ _ x => x))))
  refine wpN_mix (wpAny_standAt ?_)
  obtain ⟨⟨oc, od, fd, sl, e⟩, h₂⟩ := And.intro (h₁.1 a rfl) h₁.2
  have hs : (((false, x) :: rest).any (·.1) || ([] : List (Option Str × Sem Value)).any (·.1.isNone)) = false := by simp only [List.any_cons, hp, List.any_nil, Bool.or_false]
  simp only [hs]
  refine wpN_mix (m := keeperOf (.ref a)) ?_
  unfold keeperOf
  refine wpAny_bind (wpAny_load e (wpAny_pure ?_))
  have key : ¬ (((false, x) :: rest).length + 2 * ([] : List (Option Str × Sem Value)).length > 30) := by simp only [List.length_cons, List.length_nil]; omega
  show wpN M A (if ((false, x) :: rest).length + 2 * ([] : List (Option Str × Sem Value)).length > 30 then (call (Value.ref a) ([] ++ vs) [] >>= fun r => holding [r] point >>= fun _ => pure r) else (callMarked plainCall (.ref a) ([] ++ vs) [] >>= fun r => holding [r] point >>= fun _ => pure r)) Q E s₁
  rw [if_neg key]
  exact wpN_tail (wpN_keep h₂)
theorem wpN_callWith_type {pos : Pos} {T : String} {x : Sem Value} {rest : List (Bool × Sem Value)} {Q : Value → Shared → Prop} (hp : rest.any (·.1) = false)
    (h : wpAny M A (spliced ((false, x) :: rest)) (ArgsN M A (.type T) Q E) E s) : wpN M A (callWith pos (.type T) [] ((false, x) :: rest) []) Q E s := by
  unfold callWith
  refine wpN_bind (wpN_of (wpAny_holding (Calls.evalArgs_plain (wpAny_mono h (fun vs s₁ h₁ => ?_) fun _ _ x => x))))
  refine wpN_mix (wpAny_standAt ?_)
  have hs : (((false, x) :: rest).any (·.1) || ([] : List (Option Str × Sem Value)).any (·.1.isNone)) = false := by simp only [List.any_cons, hp, List.any_nil, Bool.or_false]
  simp only [hs]
  refine wpN_mix (m := keeperOf (.type T)) (wpAny_pure ?_)
  exact wpN_tail h₁.2
theorem wpN_type1 {pos : Pos} {T : String} {e : Expr} {rest : List Expr} {Q : Value → Shared → Prop} (h : wpAny M A (spliced (backTo pos (starEach (e :: rest) env))) (ArgsN M A (.type T) Q E) E s)
    (he : starEach (e :: rest) env = (false, eval e env) :: starEach rest env := by rfl) (hplain : (backTo pos (starEach rest env)).any (·.1) = false := by rfl) :
    wpN M A (callWith pos (.type T) [] (backTo pos (starEach (e :: rest) env)) []) Q E s := by
  rw [he] at h ⊢
  exact wpN_callWith_type hplain h
theorem wpN_fn1 {pos : Pos} {a : Addr} {e : Expr} {rest : List Expr} {Q : Value → Shared → Prop} (h : wpAny M A (spliced (backTo pos (starEach (e :: rest) env))) (ArgsN M A (.ref a) Q E) E s)
    (he : starEach (e :: rest) env = (false, eval e env) :: starEach rest env := by rfl) (hplain : (backTo pos (starEach rest env)).any (·.1) = false := by rfl) (hl : (backTo pos (starEach rest env)).length ≤ 20 := by exact Nat.le_of_ble_eq_true rfl) :
    wpN M A (callWith pos (.ref a) [] (backTo pos (starEach (e :: rest) env)) []) Q E s := by
  rw [he] at h ⊢
  exact wpN_callWith_fn hplain hl h
end
section
variable {prog : Program} {w : World} {A A₀ : Around} {E : Value → Shared → Prop} {s : Shared} {K : Frag} {C L : Addr} {h₀ base : Heap} {m mg mb : Str → Option Value} {own rest : List (Addr × Obj)} {p : Program} {loose : List Str} {mean : ExcName → Option Value} {Q : Value → Shared → Prop}
theorem code_def2N {env : Env} {outer : List Env} {R : Result → Shared → Prop} {name qual : Str} {params : Arguments} {body : List Stmt} {scope : Scope} {dV kV doc pm cdv ct oc : Value} {an od : Option Addr} {osl : Array (Option Value)} {f : Addr} {args : Args} {binds : List (Str × Value)}
    (NR : News h₀ L s.heap rest) (hdis : ∀ p ∈ rest, p.1 ∉ own.map (·.1))
    (B : Below A₀ base outer h₀) (F : Fr h₀ L s.heap m) (X₀ : K.In h₀) (N : News h₀ L s.heap own) (T : Top p loose mean mg mb h₀) (hA : A.frames = some (env :: outer)) (hf : env.frame = some L) (hke : env.scope.kind = .function)
    (ho : K.lookup f = some ⟨oc, od, .func (fnOf name qual params body scope dV kV doc pm an cdv ct), osl⟩) (hcd : codeIn K cdv qual = true) (hroom : A.depth < recursionLimit)
    (hbind : BindsTo s (fnOf name qual params body scope dV kV doc pm an cdv ct) args binds) (hloc : ∀ y ∈ binds, scope.names.lookup y.1 = some .local)
    (h : ∀ g L' h₁, Kept rest g → (∀ p ∈ rest, @LT.lt Nat _ p.1 L') → Fr h₀ L g m → Fr g L' h₁ (fun y => binds.reverse.lookup y) → News g L' h₁ own → Below A base (env :: outer) g → K.In g → Top p loose mean mg mb g → (∀ p ∈ own, @LT.lt Nat _ p.1 L') →
      wpN (model prog w) (A.deeper (envOf qual scope L' f cdv)) (execs body (envOf qual scope L' f cdv))
        (fun fl s' => LeaveK h₀ L m g R (match fl with | .ret v => v | _ => .none) s')
        (fun e s' => wpAny (model prog w) (A.deeper (envOf qual scope L' f cdv)) (leaving (envOf qual scope L' f cdv) e) (fun _ s'' => R (.error e) s'') (fun e' s'' => R (.error e') s'') s')
        { s with heap := h₁, toks := s.toks + binds.length })
    (hco : scope.isCoroutine = false) (hgen : scope.isGenerator = false) (hk : scope.kind = .function)
    (hcell : ∀ x ∈ scope.names, x.2 ≠ .cell) : codeN (model prog w) A (.call (.ref f) args) R s := by
  obtain ⟨FG, BG, st, lv⟩ := groundX (R := R) B F N hA hf hke
  refine codeN_call_function hroom ((X₀.keeps F.keep) _ _ ho) rfl hco hgen rfl (codeRec_of (X₀.keeps F.keep) hcd) (hbind _ _ _ _ ?_)
  refine wpAny_newFunctionEnv hcell hloc (fun h₁ hns hsb => ⟨(T.nolimit.keeps F.keep).fresh _ hsb, codeN_func ?_⟩) hk
  have hk₁ : ∀ b o, s.heap.get? b = some o → h₁.get? b = some o := fun b o e => hsb.extBut b o (Nat.ne_of_lt (Heap.lt_size e)) (Heap.get?_push_of_some _ e)
  refine wpN_mono (h _ s.heap.objs.size h₁ (fun p hp => hideAll_get _ (NR p hp).1 (hdis p hp)) (fun p hp => Heap.lt_size (NR p hp).1) FG ⟨hns, fun b o e => hk₁ b o (of_hideAll _ e), Nat.le_of_eq (hideAll_size _ _)⟩
    (fun p hp => ⟨hk₁ _ _ (N p hp).1, Nat.ne_of_lt (Heap.lt_size (N p hp).1), hideAll_none _ (List.mem_map_of_mem hp)⟩) BG (X₀.keeps st) (T.keeps st) (fun p hp => Heap.lt_size (N p hp).1)) (fun fl s' hl => lv _ _ hl) fun _ _ y => y
theorem code_defC2N {env : Env} {outer : List Env} {R : Result → Shared → Prop} {name qual : Str} {params : Arguments} {body : List Stmt} {scope : Scope} {dV kV doc pm cdv ct oc : Value} {an od : Option Addr} {osl : Array (Option Value)} {f : Addr} {args : Args} {binds : List (Str × Value)}
    (NR : News h₀ L s.heap rest) (hdis : ∀ p ∈ rest, p.1 ∉ own.map (·.1))
    (B : Below A₀ base outer h₀) (F : Fr h₀ L s.heap m) (X₀ : K.In h₀) (N : News h₀ L s.heap own) (T : Top p loose mean mg mb h₀) (hA : A.frames = some (env :: outer)) (hf : env.frame = some L) (hke : env.scope.kind = .function)
    (ho : K.lookup f = some ⟨oc, od, .func (fnOf name qual params body scope dV kV doc pm an cdv ct), osl⟩) (hcd : codeIn K cdv qual = true) (hroom : A.depth < recursionLimit)
    (hbind : BindsTo s (fnOf name qual params body scope dV kV doc pm an cdv ct) args binds) (hkind : (binds.all fun y => scope.names.lookup y.1 == some .local || scope.names.lookup y.1 == some .cell) = true)
    (hnd : ((cellsFrom 0 scope.names []).map (·.1)).Nodup)
    (h : ∀ g L' h₁ tk cells, Kept rest g → (∀ p ∈ rest, @LT.lt Nat _ p.1 L') → Fr h₀ L g m → Fr g L' h₁ (bindL (envOfC qual scope L' f cdv).kindOf binds fun _ => none) → News g L' h₁ (cells ++ own) →
      CellsAre (bindC (envOfC qual scope L' f cdv).kindOf binds fun _ => none) (cellsFrom (L' + 1) scope.names []) cells → Below A base (env :: outer) g → K.In g → Top p loose mean mg mb g → (∀ p ∈ own, p.1 < L') →
      wpN (model prog w) (A.deeper (envOfC qual scope L' f cdv)) (execs body (envOfC qual scope L' f cdv))
        (fun fl s' => LeaveK h₀ L m g R (match fl with | .ret v => v | _ => .none) s')
        (fun e s' => wpAny (model prog w) (A.deeper (envOfC qual scope L' f cdv)) (leaving (envOfC qual scope L' f cdv) e) (fun _ s'' => R (.error e) s'') (fun e' s'' => R (.error e') s'') s')
        { s with heap := h₁, toks := tk })
    (hco : scope.isCoroutine = false) (hgen : scope.isGenerator = false) (hk : scope.kind = .function) : codeN (model prog w) A (.call (.ref f) args) R s := by
  obtain ⟨FG, BG, st, lv⟩ := groundX (R := R) B F N hA hf hke
  refine codeN_call_function hroom ((X₀.keeps F.keep) _ _ ho) rfl hco hgen rfl (codeRec_of (X₀.keeps F.keep) hcd) (hbind _ _ _ _ ?_)
  refine wpAny_newFunctionEnv_cells hk (kindsX hkind _) fun env' he s' x => ?_
  subst he
  refine ⟨(T.nolimit.keeps F.keep).keeps x.toInCall.keep, codeN_func ?_⟩
  obtain ⟨h₁, tk, rfl, _⟩ := x.done
  have hk₁ := x.toInCall.keep
  obtain ⟨cells, NC, Y⟩ := Cl.news (h₀ := s.heap) (Nat.le_refl _) fun n c hm => ⟨x.cell n c (lookup_of_mem_nodup (cellsFrom_names scope.names 0 (s.heap.objs.size + 1) [] [] rfl ▸ hnd) hm), x.above n c hm⟩
  refine wpN_mono (h _ s.heap.objs.size h₁ tk cells (fun p hp => hideAll_get _ (NR p hp).1 (hdis p hp)) (fun p hp => Heap.lt_size (NR p hp).1) FG ⟨x.toInCall.ns, fun b o e => hk₁ b o (of_hideAll _ e), Nat.le_of_eq (hideAll_size _ _)⟩ (fun p hp => ?_) Y BG (X₀.keeps st) (T.keeps st) (fun p hp => Heap.lt_size (N p hp).1)) (fun fl s' hl => lv _ _ hl) fun _ _ y => y
  rcases List.mem_append.mp hp with hp | hp
  · refine ⟨(NC p hp).1, (NC p hp).2.1, ?_⟩
    cases q : (hideAll s.heap (own.map (·.1))).get? p.1 with
    | none => rfl
    | some o => have := of_hideAll _ q; rw [(NC p hp).2.2] at this; cases this
  · exact ⟨hk₁ _ _ (N p hp).1, Nat.ne_of_lt (Heap.lt_size (N p hp).1), hideAll_none _ (List.mem_map_of_mem hp)⟩
end
section
variable {prog : Program} {w : World} {A : Around} {E : Value → Shared → Prop} {s : Shared}
theorem wpN_if_false {α : Type} {M : Model} {c : Bool} {a b : Sem α} {Q : α → Shared → Prop} (hc : c = false) (h : wpN M A b Q E s) : wpN M A (if c = true then a else b) Q E s := by
  subst hc
  exact h
theorem wpN_if_true {α : Type} {M : Model} {c : Bool} {a b : Sem α} {Q : α → Shared → Prop} (hc : c = true) (h : wpN M A a Q E s) : wpN M A (if c = true then a else b) Q E s := by
  subst hc
  exact h
theorem codeN_builtin {R : Result → Shared → Prop} {id : String} {args : Args} {b : Builtin} (hn : nd (.builtin id args) = true) (hb : entryFor table id = some b)
    (h : wpN (model prog w) (A.under (.builtin id args)) (b args)
      (fun fin s' => match fin with | .done f => R (.ok f) s' | .again c' => c'.quiet = true ∧ codeN (model prog w) A c' R s') (fun e s' => R (.error e) s') s) :
    codeN (model prog w) A (.builtin id args) R s := by
  refine codeN_of_tree hn ?_
  show wpN _ _ (match entryFor table id with | some b => b args | none => unsupported ((withoutEnding? id "#data").getD id)) _ _ s
  rw [hb]; exact h
theorem codeN_call_builtin {R : Result → Shared → Prop} {id : String} {args : Args} {b : Builtin} (hn : nd (.builtin id args) = true) (hq : plainId id = true) (hb : entryFor table id = some b)
    (h : wpAny (model prog w) A.in1 (checkBuiltinCall id args) (fun _ s₁ => wpN (model prog w) A.in1 (b args)
      (fun fin s' => match fin with | .done f => R (.ok f) s' | .again c' => c'.quiet = true ∧ codeN (model prog w) A c' R s') (fun e s' => R (.error e) s') s₁)
      (fun e s' => R (.error e) s') s) : codeN (model prog w) A (.call (.builtin id) args) R s := by
  refine codeN_of_tree rfl ?_
  show wpN _ A.in1 (do checkBuiltinCall id args; again (.builtin id args)) _ _ s
  refine wpN_mix (wpAny_mono h (fun _ s₁ h₁ => wpN_pure ⟨plainId_quiet hq args, codeN_builtin hn hb ?_⟩) fun _ _ h' => h')
  rw [Around.under_plainId hq args]; exact h₁
/-- a type is called: its __new__ by the library's rules, its __init__ in a context without decoders -/
theorem callTypeN {T newId initId : String} {Bi : Builtin} {args : List Value} {Q Q₁ : Value → Shared → Prop} (ft : TypeCalled T newId initId) (hni : ∀ a, nd (.builtin initId a) = true)
    (hct : checkTypeCall T ⟨args, []⟩ = pure ()) (entryI : entryFor table initId = some Bi)
    (hnew : codeAny (model prog w) A.in1 (.call (.builtin newId) ⟨.type T :: args, []⟩) (wants Q₁ E) s)
    (hnext : ∀ obj s₁, Q₁ obj s₁ → s₁.TypeIs obj T ∧ argsOk initId ⟨obj :: args, []⟩ ∧
      wpN (model prog w) A.in1.in1 (Bi ⟨obj :: args, []⟩)
        (fun fin s' => match fin with | .done f => wants (fun r s₂ => r = .none ∧ Q obj s₂) E (.ok f) s' | .again c' => c'.quiet = true ∧ codeN (model prog w) A.in1 c' (wants (fun r s₂ => r = .none ∧ Q obj s₂) E) s')
        (fun e s' => wants (fun r s₂ => r = .none ∧ Q obj s₂) E (.error e) s') s₁) :
    wpN (model prog w) A (call (.type T) args) Q E s := by
  obtain ⟨c, tl, hmro⟩ := ft.mro
  have hmade := ft.made
  have hsub := ft.sub
  refine wpN_call (codeN_of_tree rfl ?_)
  show wpN _ _ (callAny (.type T) _) _ _ _
  refine wpN_pure ⟨Code.quiet_builtin _ (by decide +kernel), codeN_builtin (by show (!ndIds.contains "type.__call__") = true; decide +kernel) F.entry_type_call ?_⟩
  rw [Around.under_plain (weight_type_call_type T args []) rfl]
  unfold Builtin.«type.__call__»
  refine wpN_if_false ft.notType ?_
  refine wpN_if_false ft.canCreate ?_
  refine wpN_mix (wpAny_of_eq hct ?_)
  refine wpN_mix (wpAny_of_eq hmro ?_)
  refine wpN_if_false rfl ?_
  refine wpN_mix (wpAny_of_eq hmade ?_)
  refine wpN_mix (wpAny_pure ?_)
  refine wpN_mix (wpAny_holding (wpAny_call (codeAny_mono hnew fun r s₁ hr => ?_)))
  cases r with
  | error e => exact hr
  | ok fl =>
    cases fl with
    | ret obj =>
      obtain ⟨hT, hok, hsi⟩ := hnext _ _ hr
      refine wpN_mix (wpAny_isInstance hT hsub ?_)
      refine wpN_if_false rfl ?_
      refine wpN_bind (wpN_holding ?_)
      unfold callSpecial?
      refine wpN_mix (wpAny_specialOf hT ft.init.lookup ?_)
      refine wpN_holding ?_
      refine wpN_mix (wpAny_of_eq (ft.init.bind obj) ?_)
      refine wpN_bind (wpN_call (codeN_mono (codeN_call_builtin (hni _) ft.init.plain entryI (ft.init.check _ _ _ _ _ _ _ _ hT hok hsi)) fun r₂ s₂ hr₂ => ?_))
      cases r₂ with
      | error e => exact hr₂
      | ok fl₂ =>
        cases fl₂ with
        | ret r =>
          obtain ⟨rfl, hq⟩ := hr₂
          refine wpN_pure ?_
          refine wpN_if_false rfl ?_
          exact wpN_pure hq
        | _ => exact hr₂.elim
    | _ => exact hr.elim
end
theorem ba_mro : mroOf (.type "bytearray") = pure [.type "bytearray", .type "object"] := by rw [mroOf_type]; kernel_rfl
theorem ba_lookup_new : typeLookup (.type "bytearray") "__new__" = pure (some (.builtin "bytearray.__new__")) := by rw [typeLookup_type, builtinLookup_eq_fast]; kernel_rfl
theorem ba_slot_init : Slot "bytearray" "__init__" "bytearray.__init__" :=
  .of (owner := "bytearray") (n := "__init__") (by rw [typeLookup_type, builtinLookup_eq_fast]; kernel_rfl) (by decide +kernel) (by decide +kernel) (by decide +kernel)
    (by first | exact .inl (by decide +kernel) | exact .inr (by decide +kernel)) (by rw [isSubtype_type]; kernel_rfl)
theorem ba_called : TypeCalled "bytearray" "bytearray.__new__" "bytearray.__init__" :=
  ⟨by decide +kernel, by decide +kernel, ⟨_, _, ba_mro⟩, madeBy_type ba_mro ba_lookup_new (by decide +kernel), by decide +kernel, by rw [isSubtype_type]; kernel_rfl, ba_slot_init⟩
theorem ba_typeCall (a : Value) : checkTypeCall "bytearray" ⟨[a], []⟩ = pure () := by kernel_rfl
theorem ba_newCall (a : Value) : checkBuiltinCall "bytearray.__new__" ⟨[.type "bytearray", a], []⟩ = pure () := by kernel_rfl
theorem ba_plain_new : plainId "bytearray.__new__" = true := by decide +kernel
theorem ba_entry_new : entryFor table "bytearray.__new__" = some Builtin.«list.__new__» := entryFor_alias (id' := "list.__new__") (by kernel_rfl) (by decide +kernel) (by decide +kernel) (by kernel_rfl)
theorem ba_entry_init : entryFor table "bytearray.__init__" = some Builtin.«bytearray.__init__» := entryFor_of_fast (by kernel_rfl)
theorem ba_plain_init : plainId "bytearray.__init__" = true := by decide +kernel
theorem ba_args (o a : Value) : argsOk "bytearray.__init__" ⟨[o, a], []⟩ := by first | trivial | kernel_rfl
theorem ba_bind (v : Value) : Builtin.Bytes.bindOptional "bytearray.__init__" "bytearray" ["source", "encoding", "errors"] [v] [] = pure [some v, none, none] := by kernel_rfl
theorem ba_owner : ("bytearray.__new__".splitOn ".__new__").headD "" = "bytearray" := by rw [PySem.W.split_bytearray]; rfl
theorem ba_sub : isSubtype (.type "bytearray") (.type "bytearray") = pure true := by rw [isSubtype_type]; kernel_rfl
theorem ba_look_release : typeLookup (.type "bytearray") "__release_buffer__" = pure (some (.builtin "bytearray.__release_buffer__")) := by rw [typeLookup_type, builtinLookup_eq_fast]; kernel_rfl
section
variable {prog : Program} {w : World} {A : Around} {E : Value → Shared → Prop} {s : Shared}
theorem ba_new (a : Value) {Q₁ : Value → Shared → Prop} (h : Q₁ (.ref s.heap.objs.size) { s with heap := s.heap.push { cls := .type "bytearray", data := .bytearray #[] } }) :
    codeAny (model prog w) A (.call (.builtin "bytearray.__new__") ⟨[.type "bytearray", a], []⟩) (wants Q₁ E) s := by
  refine codeAny_of_tree ?_
  show wpAny _ A.in1 (do checkBuiltinCall "bytearray.__new__" ⟨[.type "bytearray", a], []⟩; again (.builtin "bytearray.__new__" ⟨[.type "bytearray", a], []⟩)) _ _ s
  refine wpAny_bind (wpAny_of_eq (ba_newCall a) (wpAny_pure ⟨plainId_quiet ba_plain_new _, codeAny_builtin_stack ba_entry_new rfl fun p st => ?_⟩))
  rw [Around.under_plainId ba_plain_new _]
  have hown := ba_owner
  simp only [hown]
  refine wpAny_bind (wpAny_of_eq (a := true) rfl ?_)
  refine bm_if_false rfl ?_
  refine wpAny_bind (wpAny_of_eq ba_sub ?_)
  refine bm_if_false rfl ?_
  refine wpAny_bind (wpAny_pure ?_)
  refine bm_if_true (by decide +kernel) ?_
  refine wpAny_bind ?_
  refine wpAny_newObj_type ?_ (Nat.zero_le _)
  exact wpAny_pure h
theorem ba_release {S : Addr} {Q : Bool → Shared → Prop} (hT : s.TypeIs (.ref S) "bytearray") (h : Q false s) : wpAny (model prog w) A (Builtin.Bytes.ownRelease (.ref S)) Q E s := by
  unfold Builtin.Bytes.ownRelease Builtin.Bytes.slotIsOwn
  refine wpAny_bind (wpAny_bind (wpAny_specialOf hT ba_look_release ?_))
  refine bm_if_false (by decide +kernel) ?_
  have key : ∀ x : String, x = "bytearray" → wpAny (model prog w) A (isInstance (.ref S) (.type x)) (fun a s' => wpAny (model prog w) A (pure !a) Q E s') E s := fun x hx => by rw [hx]; exact wpAny_isInstance hT ba_sub (wpAny_pure h)
  exact key _ (by decide +kernel)
theorem stackN_any {M : Model} {f : Code × Pos → Bool} {Q : Bool → Shared → Prop} (hf : ∀ x : Code × Pos, nd x.1 = true → f x = false) (h : Q false s) : wpN M A (do return (← stack).any f) Q E s := fun Γ p hΓ h1 h2 => by
  show Q (((Γ.code, p) :: Γ.below).any f) s
  have e : ((Γ.code, p) :: Γ.below).any f = false := by
    rw [List.any_eq_false]
    intro x hx
    rcases List.mem_cons.mp hx with rfl | hx
    · rw [hf _ h1]; decide
    · rw [hf _ (h2 x hx)]; decide
  rw [e]; exact h
theorem ba_exported {M : Model} {S : Addr} {Q : Bool → Shared → Prop} (h : Q false s) : wpN M A (Builtin.Bytes.exported (.ref S)) Q E s := by
  unfold Builtin.Bytes.exported
  refine stackN_any ?_ h
  rintro ⟨c, p⟩ hn
  cases c with
  | builtin id args =>
    have hn' : ndIds.contains id = false := by simpa [nd] using hn
    have h1 : ∀ x ∈ ndIds, id ≠ x := fun x hx e => by
      rw [e] at hn'
      have : ndIds.contains x = true := by simpa using hx
      rw [this] at hn'; cases hn'
    have hd : Builtin.Bytes.decodersThatHold.contains id = false := by
      cases q : Builtin.Bytes.decodersThatHold.contains id with
      | false => rfl
      | true => exact absurd rfl (h1 id (List.mem_append_right _ (by simpa using q)))
    obtain ⟨pos, kw⟩ := args
    delta Builtin.Bytes.exported.match_1
    refine (dif_neg (h1 "bytearray.__contains__" (by decide))).trans ?_
    refine (dif_neg (h1 "bytearray.__mod__" (by decide))).trans ?_
    refine (dif_neg (h1 "bytearray.__rmod__" (by decide))).trans ?_
    refine (dif_neg (h1 "_struct.pack_into.held" (by decide))).trans ?_
    refine (dif_neg (h1 "bytearray.find.held" (by decide))).trans ?_
    cases pos with
    | nil => rfl
    | cons v t => exact (congrArg (Builtin.Bytes.sameRef v (Value.ref S) && ·) hd).trans (Bool.and_false _)
  | _ => rfl
theorem wp_neg {α : Type} {M : Model} {c : Prop} [Decidable c] {a b : Sem α} {Q : α → Shared → Prop} (hc : ¬ c) (h : wpAny M A b Q E s) : wpAny M A (if c then a else b) Q E s := by rw [if_neg hc]; exact h
theorem wp_pos {α : Type} {M : Model} {c : Prop} [Decidable c] {a b : Sem α} {Q : α → Shared → Prop} (hc : c) (h : wpAny M A a Q E s) : wpAny M A (if c then a else b) Q E s := by rw [if_pos hc]; exact h
theorem ba_write {S : Addr} {b : Array UInt8} {f : Array UInt8 → Array UInt8} {Q : Unit → Shared → Prop} (hS : s.heap.get? S = some { cls := .type "bytearray", data := .bytearray b }) (hz : (f b).size ≤ sizeLine)
    (h : Q () { s with heap := s.heap.update S (Obj.mapBytearray f) }) : wpAny (model prog w) A (Builtin.Bytes.write (.ref S) f) Q E s := by
  show wpAny _ _ (updateBytearray S f) _ _ _
  unfold updateBytearray
  refine wpAny_bind (wpAny_load hS ?_)
  show wpAny _ _ (update S (Obj.mapBytearray f) >>= fun _ => lookBehind S) _ _ _
  refine wpAny_bind (wpAny_update hS ?_)
  have hS₂ : (s.heap.update S (Obj.mapBytearray f)).get? S = some { cls := .type "bytearray", data := .bytearray (f b) } := Heap.get?_update_self (Obj.mapBytearray f) hS rfl
  refine wpAny_lookBehind hS₂ ?_ h
  show (if (f b).size > sizeLine then some "bytearray:memory" else none) = none
  rw [if_neg (Nat.not_lt.mpr hz)]
theorem ba_init {A' : Around} {t : Tok} {S : Addr} {R : Result → Shared → Prop} (hS : s.heap.get? S = some { cls := .type "bytearray", data := .bytearray #[] }) 
    (h : R (.ok (.ret .none)) { s with heap := (s.heap.update S (Obj.mapBytearray fun _ => #[])).update S (Obj.mapBytearray fun _ => Array.replicate 49 0) }) :
    wpN (model prog w) A (Builtin.«bytearray.__init__» ⟨[.ref S, .int 49 t], []⟩)
      (fun fin s' => match fin with | .done f => R (.ok f) s' | .again c' => c'.quiet = true ∧ codeN (model prog w) A' c' R s') (fun e s' => R (.error e) s') s := by
  unfold Builtin.«bytearray.__init__»
  have hT : s.TypeIs (.ref S) "bytearray" := ⟨_, hS, rfl⟩
  refine wpN_mix (ba_release hT ?_)
  refine wpN_if_false rfl ?_
  refine wpN_mix (wpAny_of_eq (ba_bind _) ?_)
  refine wpN_mix (wpAny_of_eq (a := ()) rfl ?_)
  refine wpN_mix (wpAny_of_eq (a := ()) rfl ?_)
  refine wpN_bind ?_
  refine wpN_bind (m := Builtin.Bytes.exported (.ref S)) (ba_exported ?_)
  refine wpN_of ?_
  refine wpAny_bind (m := Builtin.Bytes.exportsOf (.ref S)) ?_
  unfold Builtin.Bytes.exportsOf
  refine wpAny_bind (wpAny_load hS (wpAny_pure (wpAny_pure ?_)))
  refine wpN_if_false (by decide) (wpN_of ?_)
  refine wpAny_bind (ba_write hS (Nat.zero_le _) ?_)
  refine wpAny_bind (wpAny_of_eq (a := none) rfl ?_)
  refine bm_if_false rfl ?_
  refine wpAny_bind (wpAny_of_eq (a := ()) rfl ?_)
  refine wpAny_bind (wpAny_specialOf (T := "int") rfl F.slot_int_index.lookup ?_)
  refine bm_if_true rfl ?_
  refine wpAny_bind (wpAny_attempt (wpAny_of_eq (a := 49) rfl ?_))
  refine bm_if_false (by decide +kernel) ?_
  refine wp_neg (by decide) ?_
  refine bm_if_false (by decide) ?_
  refine bm_if_false (by decide +kernel) ?_
  refine wpAny_bind (wpAny_rule ?_)
  refine wp_pos (by decide) ?_
  have hS₁ : (s.heap.update S (Obj.mapBytearray fun _ => #[])).get? S = some { cls := .type "bytearray", data := .bytearray #[] } := Heap.get?_update_self (Obj.mapBytearray fun _ => #[]) hS rfl
  refine wpAny_bind (ba_write (s := { s with heap := s.heap.update S (Obj.mapBytearray fun _ => #[]) }) hS₁ (by rw [sizeLine_eq]; decide) ?_)
  exact wpAny_pure h
theorem call_bytearray {t : Tok} {Q : Value → Shared → Prop}
    (h : ∀ h', (∀ b o, s.heap.get? b = some o → h'.get? b = some o) → h'.get? s.heap.objs.size = some { cls := .type "bytearray", data := .bytearray (Array.replicate 49 0) } → Q (.ref s.heap.objs.size) { s with heap := h' }) :
    wpN (model prog w) A (call (.type "bytearray") [.int 49 t]) Q E s := by
  refine callTypeN (Q₁ := fun obj s₁ => obj = .ref s.heap.objs.size ∧ s₁ = { s with heap := s.heap.push { cls := .type "bytearray", data := .bytearray #[] } }) ba_called (fun a => by show (!ndIds.contains "bytearray.__init__") = true; decide +kernel) (ba_typeCall _) ba_entry_init (ba_new _ ⟨rfl, rfl⟩) ?_
  rintro obj s₁ ⟨rfl, rfl⟩
  have hS : (s.heap.push { cls := .type "bytearray", data := .bytearray #[] }).get? s.heap.objs.size = some { cls := .type "bytearray", data := .bytearray #[] } := Heap.get?_push_size _ rfl
  refine ⟨⟨_, hS, rfl⟩, ba_args _ _, ba_init (s := { s with heap := s.heap.push { cls := .type "bytearray", data := .bytearray #[] } }) (R := wants (fun r s₂ => r = .none ∧ Q (.ref s.heap.objs.size) s₂) E) hS ⟨rfl, h _ ?_ ?_⟩⟩
  · intro b o e
    have hne : b ≠ s.heap.objs.size := Nat.ne_of_lt (Heap.lt_size e)
    exact (Heap.get?_update_other _ _ (Ne.symm hne)).trans ((Heap.get?_update_other _ _ (Ne.symm hne)).trans (Heap.get?_push_of_some _ e))
  · have h1 := Heap.get?_update_self (Obj.mapBytearray fun _ => #[]) hS rfl
    exact Heap.get?_update_self (Obj.mapBytearray fun _ => Array.replicate 49 0) h1 rfl
end
theorem ba_slot_set : Slot "bytearray" "__setitem__" "bytearray.__setitem__" :=
  .of (owner := "bytearray") (n := "__setitem__") (by rw [typeLookup_type, builtinLookup_eq_fast]; kernel_rfl) (by decide +kernel) (by decide +kernel) (by decide +kernel)
    (by first | exact .inl (by decide +kernel) | exact .inr (by decide +kernel)) (by rw [isSubtype_type]; kernel_rfl)
theorem ba_entry_set : entryFor table "bytearray.__setitem__" = some Builtin.«bytearray.__setitem__» := entryFor_of_fast (by kernel_rfl)
theorem ba_args_set (a b c : Value) : argsOk "bytearray.__setitem__" ⟨[a, b, c], []⟩ := by first | trivial | kernel_rfl
theorem ba_no_bytes : typeLookup (.type "bytearray") "__bytes__" = pure none := by rw [typeLookup_type, builtinLookup_eq_fast]; kernel_rfl
theorem ba_no_index : typeLookup (.type "bytearray") "__index__" = pure none := by rw [typeLookup_type, builtinLookup_eq_fast]; kernel_rfl
theorem ba_look_buffer : typeLookup (.type "bytearray") "__buffer__" = pure (some (.builtin "bytearray.__buffer__")) := by rw [typeLookup_type, builtinLookup_eq_fast]; kernel_rfl
section
variable {prog : Program} {w : World} {A : Around} {E : Value → Shared → Prop} {s : Shared}
theorem ba_payload {M : Model} {S : Addr} {b : Array UInt8} {Q : Array UInt8 → Shared → Prop} (hS : s.heap.get? S = some { cls := .type "bytearray", data := .bytearray b }) (h : Q b s) : wpAny M A (Builtin.Bytes.payload (.ref S)) Q E s := by
  unfold Builtin.Bytes.payload Builtin.Bytes.payload?
  refine wpAny_bind (wpAny_bind (wpAny_load hS ?_))
  exact wpAny_pure (wpAny_pure h)
theorem ba_setItem {S : Addr} {b : Array UInt8} {k x : Int} {t u : Tok} {Q : Unit → Shared → Prop} (hS : s.heap.get? S = some { cls := .type "bytearray", data := .bytearray b }) (h0 : 0 ≤ k) (hn : k < b.size) (hz : b.size ≤ 100000) (hx0 : 0 ≤ x) (hx1 : x < 256)
    (hQ : Q () { s with heap := s.heap.update S (Obj.mapBytearray (·.setIfInBounds k.toNat x.toNat.toUInt8)) }) : wpAny (model prog w) A (setItem (.ref S) (.int k t) (.int x u)) Q E s := by
  have hT : s.TypeIs (.ref S) "bytearray" := ⟨_, hS, rfl⟩
  unfold setItem
  refine wpAny_holding ?_
  refine wpAny_bind (wpAny_sequenceKey hT (by decide) ?_)
  refine wpAny_bind (wpAny_callSpecial?_slot (name := Str.ofString "__setitem__") hT ba_slot_set
    (wpAny_call_entry ba_slot_set hT ba_entry_set ?_ (ba_args_set _ _ _)))
  unfold Builtin.«bytearray.__setitem__»
  refine bm_if_false rfl ?_
  have hfit : Builtin.Bytes.fitsIndex k = true := by unfold Builtin.Bytes.fitsIndex; simp only [Bool.and_eq_true, decide_eq_true_eq]; omega
  refine wpAny_bind ?_
  unfold Builtin.Bytes.subscript?
  refine wpAny_bind (wpAny_specialOf (T := "int") (typeIs_int s k t) F.slot_int_index.lookup ?_)
  refine bm_if_false rfl ?_
  refine wpAny_bind (wpAny_of_eq (a := k) rfl ?_)
  refine bm_if_false (by rw [hfit]; rfl) (wpAny_pure ?_)
  refine wpAny_bind ?_
  unfold Builtin.Bytes.byteValue
  refine wpAny_bind (wpAny_of_eq (a := x) rfl ?_)
  refine bm_if_false (by simp only [Bool.or_eq_false_iff, decide_eq_false_iff_not]; omega) (wpAny_pure ?_)
  refine wpAny_bind (ba_payload hS ?_)
  have hsi : seqIndex? k b.size = some k.toNat := by
    unfold seqIndex?
    simp only [if_neg (show ¬ k < 0 by omega)]
    rw [if_pos (by simp only [Bool.and_eq_true, decide_eq_true_eq]; omega)]
  rw [hsi]
  refine wpAny_bind (ba_write hS (by rw [sizeLine_eq]; simp; omega) ?_)
  first
    | exact wpAny_bind (wpAny_pure (wpAny_pure ⟨.none, rfl, wpAny_pure hQ⟩))
    | exact wpAny_pure ⟨.none, rfl, wpAny_pure hQ⟩
theorem ba_buffer {id : String} {full : Bool} {S : Addr} {b : Array UInt8} {Q : Option (Array UInt8) → Shared → Prop} (hS : s.heap.get? S = some { cls := .type "bytearray", data := .bytearray b }) (h : Q (some b) s) :
    wpAny (model prog w) A (Builtin.Bytes.buffer? id (.ref S) full) Q E s := by
  have hT : s.TypeIs (.ref S) "bytearray" := ⟨_, hS, rfl⟩
  unfold Builtin.Bytes.buffer?
  refine wpAny_bind (wpAny_specialOf hT ba_look_buffer ?_)
  refine wpAny_bind ?_
  unfold Builtin.Bytes.slotIsOwn
  refine wpAny_bind (wpAny_specialOf hT ba_look_buffer ?_)
  refine bm_if_false (by decide +kernel) ?_
  have key : ∀ (x : String) (R : Bool → Shared → Prop), x = "bytearray" → R true s → wpAny (model prog w) A (isInstance (.ref S) (.type x)) R E s := fun x R hx hr => by rw [hx]; exact wpAny_isInstance hT ba_sub hr
  refine key _ _ (by decide +kernel) ?_
  refine bm_if_false rfl ?_
  refine wpAny_bind (wpAny_specialOf hT ba_look_buffer ?_)
  refine wpAny_bind (ba_release hT ?_)
  refine bm_if_false rfl ?_
  exact wpAny_bind (ba_payload hS (wpAny_pure h))
theorem bytes_of_ba {S : Addr} {b : Array UInt8} {Q : Value → Shared → Prop} (hS : s.heap.get? S = some { cls := .type "bytearray", data := .bytearray b }) (hz : b.size ≤ 100000)
    (hQ : ∀ t k, Q (.bytes b t) { s with toks := k }) : wpAny (model prog w) A (call (.type "bytes") [.ref S]) Q E s := by
  have hT : s.TypeIs (.ref S) "bytearray" := ⟨_, hS, rfl⟩
  refine callType_codes (Q₁ := fun obj s₁ => s₁.TypeIs obj "bytes" ∧ Q obj s₁) F.bm_called (F.bm_typeCall _) F.entry_object_init ?_ fun obj s₁ h₁ => ?_
  · refine codeAny_of_tree ?_
    show wpAny _ A.in1.in1 (do checkBuiltinCall "bytes.__new__" ⟨[.type "bytes", .ref S], []⟩; again (.builtin "bytes.__new__" ⟨[.type "bytes", .ref S], []⟩)) _ _ s
    refine wpAny_bind (wpAny_of_eq (F.bm_newCall _) (wpAny_pure ⟨plainId_quiet F.bm_plain _, codeAny_builtin F.bm_entry ?_⟩))
    rw [Around.under_plainId F.bm_plain _]
    unfold Builtin.«bytes.__new__»
    refine wpAny_bind (wpAny_of_eq (a := true) rfl ?_)
    refine bm_if_false rfl ?_
    refine wpAny_bind (wpAny_of_eq F.bm_sub ?_)
    refine bm_if_false rfl ?_
    refine wpAny_bind (wpAny_of_eq (F.bm_bind _) ?_)
    refine wpAny_bind (wpAny_of_eq (a := ()) rfl ?_)
    refine wpAny_bind (wpAny_of_eq (a := ()) rfl ?_)
    refine bm_if_false rfl ?_
    refine wpAny_bind (wpAny_specialOf hT ba_no_bytes ?_)
    refine wpAny_bind (wpAny_bind ?_)
    show wpAny _ _ (load S >>= _) _ _ _
    refine wpAny_bind (wpAny_load hS ?_)
    refine wpAny_pure (wpAny_pure ?_)
    refine bm_if_false rfl ?_
    refine wpAny_bind (wpAny_specialOf hT ba_no_index ?_)
    refine bm_if_true rfl ?_
    refine wpAny_bind ?_
    refine ba_buffer hS ?_
    refine wpAny_bind (wpAny_rule ?_)
    refine wpAny_bind (wpAny_mkBytes ?_ (by rw [sizeLine_eq]; omega))
    show wpAny _ _ (if (Value.type "bytes" == Value.type "bytes") = true then _ else _) _ _ _
    refine bm_if_true (by decide) ?_
    exact wpAny_pure ⟨PySem.W.typeIs_bytes _ _ _, hQ _ _⟩
  · exact ⟨h₁.1, F.args_object_init_2 obj _, object_init_meets F.bm_called.init.lookup F.bm_called.made (by decide) prog w A.in1 _ s₁ ⟨h₁.1, rfl, h₁.2⟩⟩
end
abbrev baOf (b : Array UInt8) : Obj := { cls := .type "bytearray", data := .bytearray b }
theorem bN_set (arr : Array UInt8) (k n : Nat) (v : UInt8) (hk : k < arr.size) : (bN (arr.setIfInBounds k v)).getD n 0 = if n = k then v.toNat else (bN arr).getD n 0 := by
  unfold bN
  rw [Array.toList_setIfInBounds, List.map_set, List.getD_eq_getElem?_getD, List.getElem?_set]
  by_cases h : k = n
  · subst h
    rw [if_pos rfl, if_pos (by simpa using hk), if_pos rfl]; rfl
  · rw [if_neg h, if_neg (fun e => h e.symm), List.getD_eq_getElem?_getD]
/-- the blocks ahead of q are turned, and j octets of block q -/
def SwP (b : Array UInt8) (q j : Nat) (arr : Array UInt8) : Prop :=
  arr.size = 49 ∧ (∀ i, i < q → ∀ k, k < 7 → (bN arr).getD (7 * i + 6 - k) 0 = (bN b).getD (7 * i + k) 0) ∧ ∀ k, k < j → (bN arr).getD (7 * q + 6 - k) 0 = (bN b).getD (7 * q + k) 0
theorem sw_start (b : Array UInt8) : SwP b 0 0 (Array.replicate 49 0) := ⟨by simp, fun _ h => absurd h (Nat.not_lt_zero _), fun _ h => absurd h (Nat.not_lt_zero _)⟩
theorem sw_next {b arr : Array UInt8} {q : Nat} (h : SwP b q 7 arr) : SwP b (q + 1) 0 arr := by
  refine ⟨h.1, fun i hi k hk => ?_, fun _ h => absurd h (Nat.not_lt_zero _)⟩
  by_cases e : i < q
  · exact h.2.1 i e k hk
  · have : i = q := by omega
    subst this
    exact h.2.2 k hk
theorem sw_step {b arr : Array UInt8} {q j : Nat} (h : SwP b q j arr) (hq : q < 7) (hj : j < 7) {K X : Int} (hK : K = 7 * (q : Int) + 6 - (j : Int)) {m : Int} (hm : m = 7 * (q : Int) + (j : Int)) (hX : X = bA b m) : SwP b q (j + 1) (arr.setIfInBounds K.toNat X.toNat.toUInt8) := by
  obtain ⟨h1, h2, h3⟩ := h
  have hk : K.toNat = 7 * q + 6 - j := by omega
  have hm' : m.toNat = 7 * q + j := by omega
  have hx : X.toNat.toUInt8.toNat = (bN b).getD (7 * q + j) 0 := by
    have hl := bN_lt b (7 * q + j)
    subst hX
    unfold bA
    rw [Int.toNat_natCast, hm']
    show (bN b).getD (7 * q + j) 0 % 256 = _
    exact Nat.mod_eq_of_lt hl
  have hs : ∀ n, (bN (arr.setIfInBounds K.toNat X.toNat.toUInt8)).getD n 0 = if n = 7 * q + 6 - j then (bN b).getD (7 * q + j) 0 else (bN arr).getD n 0 := fun n => by
    rw [bN_set _ _ _ _ (by omega), hx, hk]
  refine ⟨by simpa using h1, fun i hi k hk => ?_, fun k hk => ?_⟩
  · rw [hs, if_neg (by omega)]; exact h2 i hi k hk
  · rw [hs]
    by_cases e : k = j
    · subst e; rw [if_pos rfl]
    · rw [if_neg (by omega)]; exact h3 k (by omega)
def SwO (b : Array UInt8) (q j : Nat) (o : Obj) : Prop := ∃ arr, o = baOf arr ∧ SwP b q j arr
theorem news_upd {h₀ h : Heap} {L D I : Addr} {io : Obj} {arr : Array UInt8} {f : Array UInt8 → Array UInt8} {rest : List (Addr × Obj)} (N : News h₀ L h ((I, io) :: (D, baOf arr) :: rest)) (h1 : @Ne Nat D I) (h2 : ∀ p ∈ rest, p.1 ≠ D) :
    News h₀ L (h.update D (Obj.mapBytearray f)) ((I, io) :: (D, baOf (f arr)) :: rest) := fun p hp => by
  rcases List.mem_cons.mp hp with rfl | hp
  · have z := N _ (.head _)
    exact ⟨(Heap.get?_update_other _ _ h1).trans z.1, z.2⟩
  · rcases List.mem_cons.mp hp with rfl | hp
    · have z := N (D, baOf arr) (.tail _ (.head _))
      exact ⟨Heap.get?_update_self (Obj.mapBytearray f) z.1 rfl, z.2⟩
    · have z := N p (.tail _ (.tail _ hp))
      exact ⟨(Heap.get?_update_other _ _ (fun e => h2 p hp e.symm)).trans z.1, z.2⟩
theorem news_new {h₀ h h' : Heap} {L : Addr} {m : Str → Option Value} {o : Obj} {ps : List (Addr × Obj)} (F : Fr h₀ L h m) (N : News h₀ L h ps) (hk : ∀ b o, h.get? b = some o → h'.get? b = some o) (hn : h'.get? h.objs.size = some o) : News h₀ L h' ((h.objs.size, o) :: ps) := fun p hp => by
  rcases List.mem_cons.mp hp with rfl | hp
  · exact ⟨hn, fun e => absurd F.ns.lt (by rw [← e]; exact Nat.lt_irrefl _), next_is_new F⟩
  · exact ⟨hk _ _ (N p hp).1, (N p hp).2⟩
theorem len_49 {w : World} {A : Around} {E : Value → Shared → Prop} {s : Shared} {b : Array UInt8} {t : Tok} {Q : Value → Shared → Prop} (hb : b.size = 49) (h : Q (.int 49 (s.toks + 1)) { s with toks := s.toks + 1 + 1 }) :
    wpAny (model PG w) A (call (.builtin "len") [.bytes b t]) Q E s := by
  refine len_bytes (by omega) ?_
  rw [hb]; exact h
theorem ba_setK {w : World} {A : Around} {E : Value → Shared → Prop} {s : Shared} {h₀ : Heap} {L D I : Addr} {io : Obj} {arr : Array UInt8} {rest : List (Addr × Obj)} {m : Str → Option Value} {k x : Int} {t u : Tok} {Q : Unit → Shared → Prop}
    (F : Fr h₀ L s.heap m) (N : News h₀ L s.heap ((I, io) :: (D, baOf arr) :: rest)) (h1 : @Ne Nat D I) (h2 : ∀ p ∈ rest, p.1 ≠ D) (k0 : 0 ≤ k) (k1 : k < arr.size) (hz : arr.size ≤ 100000) (x0 : 0 ≤ x) (x1 : x < 256)
    (h : ∀ h', Fr h₀ L h' m → News h₀ L h' ((I, io) :: (D, baOf (arr.setIfInBounds k.toNat x.toNat.toUInt8)) :: rest) → Q () { s with heap := h' }) :
    wpAny (model PG w) A (setItem (.ref D) (.int k t) (.int x u)) Q E s := by
  have z := N (D, baOf arr) (.tail _ (.head _))
  exact ba_setItem z.1 k0 k1 hz x0 x1 (h _ (F.change (Heap.SameBut.update ..) z.2.1 z.2.2) (news_upd N h1 h2))
local macro_rules | `(tactic| walk_at "call builtin:len") => `(tactic| (k_here; (with_reducible show wpAny _ _ (call (Value.builtin "len") [Value.bytes _ _]) _ _ _); refine len_49 (by assumption) ?_))
theorem swap_C {w : World} {mean : ExcName → Option Value} {mg mb : Str → Option Value} (news : List (Addr × Obj)) (b : Array UInt8) (t t2 : Tok) (hb : b.size = 49)
  (dp un : Nat) (gd : Option (List Code)) (cn : Str) (cs : Scope) (a : Addr) (ccd : Value) (cl : List (Str × Addr)) (outer : List Env) (A₀ : Around) (base h₀ : Heap) (L : Addr) (m : Str → Option Value) (s : Shared) (R : Result → Shared → Prop)
  (B : Below A₀ base outer h₀) (F : Fr h₀ L s.heap m) (X : (hd.heap_1 w.params).In h₀) (N : News h₀ L s.heap news) (T : Top topProg LZ mean mg mb h₀) (hcs : cs.kind = .function)
  (hdp : dp + 6 < recursionLimit) (hun : un + 8 * 6 < cLine)
  (hret : ∀ arr t h' tk', SwP b 7 0 arr → Fr h₀ L h' m → News h₀ L h' news → R (.ok (.ret (.bytes arr t))) { s with heap := h', toks := tk' }) :
  codeN (model PG w) (ktrTop dp un gd cn cs L a ccd cl outer) (.call (.ref 90) ⟨[.bytes b t, .int 7 t2], []⟩) R s := by
  k_dflt (refine' code_def2N N (fun _ _ h => nomatch h) ?k1 ?k2 ?k3 (own := []) (fun _ h => nomatch h) ?k5 ?kA ?kF ?kK ?k6 ?k7 ?k8 ?k9 ?kB ?_ ?c2 ?c3 ?c4 ?c5)
  (case kA => exact rfl)
  (case kF => exact rfl)
  (case kK => first | exact rfl | assumption)
  (case k1 => k_asm)
  (case k2 => k_asm)
  (case k3 => k_asm)
  (case k5 => k_asm)
  (case k6 => k_dflt k_is)
  (case k7 => k_dflt k_is)
  (case k8 => ktr_room)
  (case k9 => exact BindsTo.of_eq rfl)
  (case c5 => decide)
  (case kB => exact locs rfl)
  (case c2 => exact rfl)
  (case c3 => exact rfl)
  (case c4 => exact rfl)
  intro g' L' h' KP hRL FG' F' N' B' X' T' hOL
  try dsimp only
  k_lift B'
  try k_fold
  refine wpN_execs_cons (wpN_Assign_Name ?_)
  refine wpN_Call_Name (.type "bytearray") rfl ?_
  k_steps
  refine ⟨rfl, wpN_type1 ?_⟩
  k_steps
  refine ⟨(fun _ h => by cases h), call_bytearray ?_⟩
  intro h1 hk1 hn1
  (rename Fr g' _ _ _ => F1)
  (rename News g' _ _ _ => N1)
  have F2 := F1.keeps hk1
  have N2 := news_new F1 N1 hk1 hn1
  clear F1 N1
  k_steps
  refine ⟨rfl, wpN_of ?_⟩
  (repeat' (first | (k_unfold; (try dsimp only)) | (k_end; wrow_close) | ((fail_if_success (with_reducible show wpAny _ _ (pyIter _) _ _ _)); walk1) | (dsimp only; (fail_if_success (with_reducible show wpAny _ _ (pyIter _) _ _ _)); walk1)))
  refine' forObj 7 (Str.ofString "j") (fun q o => SwO b q 0 o) ?e1 ?e2 ?e3 ?e4 ?e5 ?e6 ?e7 ?_ ?_
  (case e1 => rfl)
  (case e2 => k_asm)
  (case e3 => decide)
  (case e4 => decide)
  (case e5 => k_asm)
  (case e6 => k_asm)
  (case e7 => exact ⟨_, rfl, sw_start b⟩)
  · intro q tq yv o I io h3 tk3 hq hS hd1 hd2 F3 N3
    (repeat' (first | (k_unfold; (try dsimp only)) | (k_end; wrow_close) | ((fail_if_success (with_reducible show wpAny _ _ (pyIter _) _ _ _)); walk1) | (dsimp only; (fail_if_success (with_reducible show wpAny _ _ (pyIter _) _ _ _)); walk1)))
    refine' forObj 7 (Str.ofString "j") (fun j o => SwO b q j o) ?e1 ?e2 ?e3 ?e4 ?e5 ?e6 ?e7 ?_ ?_
    (case e1 => rfl)
    (case e2 => k_asm)
    (case e3 => decide)
    (case e4 => decide)
    (case e5 => k_asm)
    (case e6 => exact news_swap (by k_asm))
    (case e7 => exact hS)
    · intro j tj yv2 o2 I2 io2 h4 tk4 hj hS2 hd3 hd4 F4 N4
      obtain ⟨arr, rfl, hP⟩ := hS2
      have hsz : arr.size = 49 := hP.1
      k_steps
      refine' ba_setK ?y1 ?y2 hd3 ?y3 ?y4 ?y5 ?y6 (Int.natCast_nonneg _) ?y7 ?_
      (case y1 => k_asm)
      (case y2 => k_asm)
      (case y3 => exact fun p hp => by rw [List.mem_singleton.mp hp]; exact fun e => hd1 e.symm)
      (case y4 => omega)
      (case y5 => omega)
      (case y6 => omega)
      (case y7 => have := bN_lt b (0 + (q : Int) * 7 + (0 + (j : Int) * 1)).toNat; unfold bA; omega)
      intro h8 F8 N8
      k_steps
      exact OJ_end (by k_asm) (by k_asm) (.head _) (.tail _ (.head _)) (fun p hp => .tail _ (.tail _ hp)) hd3 hd4 ⟨_, rfl, sw_step hP hq hj (by omega) (by omega) rfl⟩ (fun z e1 e2 => by simp only [if_neg e1])
    · intro o3 xv3 yv3 h5 tk5 hS3 F5 N5
      obtain ⟨arr3, rfl, hP3⟩ := hS3
      k_steps
      exact OJ_end (by k_asm) (by k_asm) (.tail _ (.head _)) (.head _) (fun p hp => .tail _ (.tail _ hp)) hd1 hd2 ⟨arr3, rfl, sw_next hP3⟩ (fun z e1 e2 => by simp only [if_neg e1, if_neg e2])
  · intro o6 xv6 yv6 h6 tk6 hS6 F6 N6
    obtain ⟨arr6, rfl, hP6⟩ := hS6
    k_steps
    refine bytes_of_ba ((by k_asm : News g' _ h6 _) _ (.head _)).1 (by have := hP6.1; omega) ?_
    intro t7 k7
    k_steps
    refine' hret arr6 t7 _ _ hP6 ?z1 ?z2
    (case z1 => k_asm)
    (case z2 => exact news_more (own' := []) KP (by k_asm) N (fun _ hp => by cases hp))
section
variable {prog : Program} {w : World} {A : Around} {E : Value → Shared → Prop} {s : Shared} {h₀ : Heap} {L : Addr} {m : Str → Option Value} {env : Env}
open LCg in
def SrcSt (prog : Program) (w : World) (A : Around) (h₀ : Heap) (L : Addr) (m : Str → Option Value) (env : Env) (elt : Expr) (x : Str) (scope : Scope) (cl : List (Str × Addr)) (Fin : Shared → List Value → List (Addr × Obj) → Prop) (xv : Value) (s₁ : Shared) : Prop :=
  ∃ r a b d t u v n news, xv = .ref r ∧ A.handled = none ∧ Fr h₀ L s₁.heap m ∧ News h₀ L s₁.heap news ∧ IsRange s₁.heap r a b d t u v ∧ Builtin.Range.small a b d = true ∧ Builtin.Range.rangeSize a b d = ((n : Nat) : Int) ∧ n ≤ sizeLine ∧
    ∀ s₂ : Shared, (∃ h, s₂ = { s₁ with heap := h }) → CompRest prog w A h₀ L m env elt x scope cl s₂ (fun _ => True) (fun i v => ∃ t, v = .int (a + (i : Int) * d) t) (Fin s₂) n 0 [] news
theorem rangeSt_st {I : Addr} {a d : Int} {n : Nat} : ∀ i (h h' : Heap) (o : Obj) (nw : List (Addr × Obj)), IsRangeIter h I (a + (i : Nat) * d) ((n : Int) - (i : Nat)) d → h.get? I = some o → h'.get? I = some o → (∀ b o, h₀.get? b = some o → h'.get? b = some o) → News h₀ L h' nw → True → IsRangeIter h' I (a + (i : Nat) * d) ((n : Int) - (i : Nat)) d :=
  fun i h h' o nw st e e' _ _ _ => by
    have st' : h.get? I = some _ := st
    show h'.get? I = some _
    rw [e', ← e]; exact st'
open LCg in
theorem ListComp_St {elt iter : Expr} {x : Str} {px : Pos} {scope : Scope} {cl : List (Str × Addr)} {pos : Pos} {Q : Value → Shared → Prop}
    (_F₀ : Fr h₀ L s.heap m) (hclos : closureFor scope env = pure cl) (hcell : ∀ y ∈ scope.names, y.2 ≠ .cell) (hkind : scope.kind = .function)
    (hnames : ∀ y ∈ scope.names, y.2 = .local → scope.names.lookup y.1 = some .local) (hx : scope.names.lookup x = some .local)
    (h : wpAny (model prog w) A (eval iter env) (SrcSt prog w A h₀ L m env elt x scope cl (fun s₂ => FinE h₀ L m s₂ Q)) E s)
    (hs : ∀ x, foldedSetIterable iter env x = pure x := by intro _; rfl) :
    wpAny (model prog w) A (eval (.ListComp elt [⟨.Name x px, iter, [], 0⟩] scope pos) env) Q E s := by
  rw [eval_ListComp]
  refine wpAny_comprehension_free (use := none) rfl hs hclos hkind hnames (wpAny_mono h (fun xv s₁ h₁ => ?_) fun _ _ e => e)
  obtain ⟨r, a, b, d, t, u, v, n, news, rfl, hh, F, N, hr, hsm, hn, hsz, R⟩ := h₁
  refine wpAny_pyIter_range hr hsm ?_
  refine block_U (Walks.range hh s₁.heap.objs.size a d n) hsz (fun i h st => ⟨_, st⟩) rangeSt_st hcell hkind hx (by show IsRangeIter _ _ _ _ _; rw [hn]; simpa using Heap.get?_push_size _ rfl) (fun b hb => ?_)
    (F.keeps fun _ _ e => Heap.get?_push_of_some _ e) (N.grown fun _ _ e => Heap.get?_push_of_some _ e) (Nat.ne_of_lt F.ns.lt) (next_is_new F) (fun p hp => Nat.ne_of_lt (Heap.lt_size (N p hp).1)) trivial (R _ ⟨_, rfl⟩) ?_
  · rw [List.mem_singleton.mp hb]
    show s₁.heap.objs.size < (s₁.heap.push _).objs.size
    rw [Heap.size_push]; exact Nat.lt_succ_self _
  · intro D C h tk m' ys news' F' N' o1 hn hC₀ hD₀ hCL hDL hCD offC fin
    refine ⟨m', hn, fun h'' hs'' => fin D h'' tk (F'.change hs'' hCL hC₀) (fun p hp => ?_) o1⟩
    refine ⟨hs''.extBut _ _ ?_ (N' p hp).1, (N' p hp).2⟩
    rcases List.mem_cons.mp hp with rfl | hp
    · exact Ne.symm hCD
    · exact offC p hp
end
theorem bInts_bN (b : Array UInt8) : KBw.bInts b = (bN b).map fun (n : Nat) => (n : Int) := by simp [KBw.bInts, bN]
/-- seven octets from x on -/
def CutAt (b : Array UInt8) (x : Nat) (c : Array UInt8) : Prop := c.size = 7 ∧ ∀ k, k < 7 → (bN c).getD k 0 = (bN b).getD (x + k) 0
theorem clip_in {n : Nat} {i : Int} (h0 : 0 ≤ i) (h1 : i ≤ n) : clipAt n i = i.toNat := by
  have h := clipAt_cast n i
  rw [if_neg (by omega)] at h
  omega
theorem cut_of {b c : Array UInt8} {x y : Int} (hb : b.size = 49) (h0 : 0 ≤ x) (h1 : x + 7 ≤ 49) (hy : y = x + 7)
    (h : KBw.bInts c = ((KBw.bInts b).drop ((some x).elim 0 (clipAt (KBw.bInts b).length))).take ((some y).elim (KBw.bInts b).length (clipAt (KBw.bInts b).length) - (some x).elim 0 (clipAt (KBw.bInts b).length))) : CutAt b x.toNat c := by
  have hl := KBw.ints_length b
  rw [hb] at hl
  simp only [Option.elim, hl] at h
  rw [clip_in h0 (by omega), clip_in (by omega) (by omega)] at h
  have e : y.toNat - x.toNat = 7 := by omega
  rw [e, bInts_bN, bInts_bN, ← List.map_drop, ← List.map_take] at h
  have h2 : bN c = ((bN b).drop x.toNat).take 7 := (List.map_inj_right (fun a b e => Int.ofNat.inj e)).mp h
  have hbl := bN_len b
  refine ⟨?_, fun k hk => ?_⟩
  · rw [← bN_len c, h2, List.length_take, List.length_drop, hbl, hb]; omega
  · rw [h2, List.getD_eq_getElem?_getD, List.getElem?_take, if_pos hk, List.getElem?_drop, ← List.getD_eq_getElem?_getD]
theorem cut_K {w : World} {A : Around} {E : Value → Shared → Prop} {s : Shared} {h₀ : Heap} {L : Addr} {m : Str → Option Value} {news : List (Addr × Obj)} {value slice : Expr} {b : Array UInt8} {t tx ty : Tok} {x y : Int} {Q : Value → Shared → Prop}
    (hF : Fr h₀ L s.heap m) (hN : News h₀ L s.heap news) (hb : b.size = 49) (h0 : 0 ≤ x) (h1 : x + 7 ≤ 49) (hy : y = x + 7)
    (h : ∀ h' c t' k, Fr h₀ L h' m → News h₀ L h' news → CutAt b x.toNat c → Q (.bytes c t') { s with heap := h', toks := k })
    (hs : subscripted slice false (.bytes b t) (.ref s.heap.objs.size) = operate [.ref s.heap.objs.size, .bytes b t] (getItem (.bytes b t) (.ref s.heap.objs.size)) := by with_unfolding_all rfl)
    (ht : ∀ r, letTemporaryGo value (.bytes b t) r = pure () := by intro _; with_unfolding_all rfl) :
    wpAny (model PG w) A (subscriptTail value slice (.bytes b t) (.ref s.heap.objs.size)) Q E { s with heap := s.heap.push { cls := .type "slice", data := .fields #[.int x tx, .int y ty, .none] } } :=
  KBc.slice_K hF hN rfl (.int x tx) (.int y ty) (by rw [KBw.ints_length]; omega) (fun h' t' k F N e => h h' _ t' k F N (cut_of hb h0 h1 hy e)) hs ht
local macro_rules | `(tactic| walk_at "subscriptTail") => `(tactic| (k_here; (with_reducible show wpAny _ _ (subscriptTail _ (Expr.Slice _ _ none _) (Value.bytes _ _) (Value.ref _)) _ _ _); (with_reducible rename Fr _ _ _ _ => F'); (with_reducible rename News _ _ _ _ => N'); (refine cut_K (s := ⟨_, _, _, _, _⟩) F' N' (by assumption) (by omega) (by omega) (by omega) ?_); intro _ _ _ _ F' N' cut'))
inductive Filt (El : Nat → Value → Prop) (No : Nat → Prop) : Nat → List Value → Prop
  | zero : Filt El No 0 []
  | yes {i ys y} : Filt El No i ys → El i y → Filt El No (i + 1) (ys ++ [y])
  | no {i ys} : Filt El No i ys → No i → Filt El No (i + 1) ys
theorem Filt.len {El : Nat → Value → Prop} {No : Nat → Prop} {i : Nat} {ys : List Value} (h : Filt El No i ys) : ys.length ≤ i := by
  induction h with
  | zero => exact Nat.le_refl _
  | yes _ _ ih => rw [List.length_append, List.length_singleton]; omega
  | no _ _ ih => omega
/-- one turn of a comprehension over pairs with a test: what the test says, what the element is -/
def TurnPT (prog : Program) (w : World) (A : Around) (h₀ : Heap) (L : Addr) (m : Str → Option Value) (env : Env) (ct elt : Expr) (x x₂ : Str) (scope : Scope) (cl : List (Str × Addr)) (s : Shared) (news : List (Addr × Obj)) (El : Value → Prop) (No : Prop) (v₁ v₂ : Value) : Prop :=
  ∀ I oI C oC D ys m₂ h tk (E' : Value → Shared → Prop), LCg.NsObj oC m₂ → m₂ x = some v₁ → m₂ x₂ = some v₂ → Fr h₀ L h m → News h₀ L h ((I, oI) :: (C, oC) :: (D, LCg.lst ys) :: news) → LCg.Off3 I C D news → ((@Ne Nat I C) ∧ (@Ne Nat I D) ∧ (@Ne Nat C D)) →
    wpAny (model prog w) A (PySem.isTrue ct (compEnvC scope cl C env) (eval ct (compEnvC scope cl C env))) (fun ok s₃ => if ok = true then
      wpAny (model prog w) A (eval elt (compEnvC scope cl C env)) (LCg.CompEnd h₀ L m { s with heap := h, toks := tk } I oI C oC D (LCg.lst ys) (fun _ => True) (fun y news' => news' = news ∧ El y)) E' s₃
      else LCg.CompEnd h₀ L m { s with heap := h, toks := tk } I oI C oC D (LCg.lst ys) (fun _ => True) (fun _ news' => news' = news ∧ No) Value.none s₃) E' { s with heap := h, toks := tk }
theorem go_tup {prog : Program} {w : World} {A : Around} {E : Value → Shared → Prop} {s : Shared} {elts : List Expr} {kk : Nat} {tp : Pos} {I T : Addr} {o : Obj} {c : String} {Q : Unit → Shared → Prop} (ho : s.heap.get? I = some o) (hc : o.cls = .type c)
    (hn : ["enumerate", "zip", "dict_itemiterator", "dict_reverseitemiterator", "odict_iterator", "itertools.zip_longest", "itertools.pairwise"].contains c = false) (hf : ∃ fs, o.data = .fields fs) (hQ : Q () s) :
    wpAny (model prog w) A (letOwnedTupleGo (.Tuple elts kk tp) (.ref I) (.ref T)) Q E s := by
  obtain ⟨fs, hd⟩ := hf
  unfold letOwnedTupleGo
  refine wpAny_bind (wpAny_load ho ?_)
  rw [hc, hd]
  dsimp only
  rw [hn]
  exact wpAny_pure hQ
section
variable {prog : Program} {w : World} {A : Around} {E : Value → Shared → Prop} {h₀ : Heap} {L : Addr} {m : Str → Option Value} {env : Env}
open LCg in
theorem loop_PT {elt iter ct : Expr} {a b : Str} {pa pb tp : Pos} {kk : Nat} {scope : Scope} {cl : List (Str × Addr)} {pos : Pos} {s : Shared} {I C D ax : Addr} {its : Array Value} {o9 : Obj} {news : List (Addr × Obj)} {St : Nat → Heap → Prop}
    {El : Nat → Value → Prop} {No : Nat → Prop} {R : Result → Shared → Prop}
    (hh : A.handled = none) (hsz : its.size ≤ sizeLine) (W : Walks prog w A I [I, ax] [I] its.size (fun i v => its[i]? = some v) St)
    (hgo : ∀ i (s : Shared) (Q : Unit → Shared → Prop) (E : Value → Shared → Prop) T, St i s.heap → Q () s → wpAny (model prog w) A (letOwnedTupleGo (.Tuple [.Name a pa, .Name b pb] kk tp) (.ref I) (.ref T)) Q E s)
    (hStI : ∀ i h, St i h → ∃ o, h.get? I = some o)
    (hSt : ∀ i h h' o, St i h → h.get? I = some o → h'.get? I = some o → h'.get? ax = some o9 → St i h') (hax : (ax, o9) ∈ news)
    (hkind : scope.kind = .function) (hxa : scope.names.lookup a = some .local) (hxb : scope.names.lookup b = some .local) (hab : ¬ a = b)
    (hIL : L ≠ I) (hI₀ : h₀.get? I = none) (hCL : C ≠ L) (hC₀ : h₀.get? C = none) (hDL : D ≠ L) (hD₀ : h₀.get? D = none) (hIC : I ≠ C) (hID : I ≠ D) (hCD : C ≠ D) (off : Off3 I C D news)
    (turn : ∀ i v, its[i]? = some v → ∃ (T : Addr) (oT : Obj) (v₁ v₂ : Value) (nt : Nat), v = .ref T ∧ (T, oT) ∈ news ∧ oT.cls = .type "tuple" ∧ oT.data = .seq #[v₁, v₂] nt ∧ TurnPT prog w A h₀ L m env ct elt a b scope cl s news (El i) (No i) v₁ v₂)
    (fin : ∀ h tk m' ys, Fr h₀ L h m → News h₀ L h ((D, lst ys) :: news) → h.Ns C m' → Filt El No its.size ys → R (.ok .next) { s with heap := h, toks := tk })
    (n : Nat) (h : Heap) (tk : Nat) (m' : Str → Option Value) (hst : St 0 h) (F : Fr h₀ L h m) (N : News h₀ L h ((D, lst []) :: news)) (hn : h.Ns C m') :
    codeAny (model prog w) A (.compLoop (.ListComp elt [⟨.Tuple [.Name a pa, .Name b pb] kk tp, iter, [ct], 0⟩] scope pos) 0 (.ref I) (.ref D) (compEnvC scope cl C env)) R { s with heap := h, toks := tk } := by
  have off3 := off.mem
  refine kct_loop (fun k s' => ∃ h tk i ys m', s' = { s with heap := h, toks := tk } ∧ i ≤ its.size ∧ k = its.size + 1 - i ∧ Filt El No i ys ∧ St i h ∧ Fr h₀ L h m ∧ News h₀ L h ((D, lst ys) :: news) ∧ h.Ns C m') ?_ (its.size + 1)
    ⟨h, tk, 0, [], m', rfl, Nat.zero_le _, rfl, .zero, hst, F, N, hn⟩
  rintro k s' ⟨h, tk, i, ys, m', rfl, hi, rfl, hf, hst, F, N, hn⟩
  have nI : ∀ p ∈ (D, lst ys) :: news, p.1 ≠ I := fun p hp => by
    rcases List.mem_cons.mp hp with rfl | hp
    · exact Ne.symm hID
    · exact (off3 p hp).1
  by_cases hlt : i < its.size
  · refine W.item i _ _ _ hlt hst fun v h₂ tk₂ hv hst₂ hk₂ => ?_
    dsimp only
    obtain ⟨T, oT, v₁, v₂, nt, rfl, hmT, hcT, hdT, tn⟩ := turn i v hv
    have N₂ : News h₀ L h₂ ((D, lst ys) :: news) := news_but N hk₂ nI
    have hT : h₂.IsTuple T #[v₁, v₂] := ⟨oT, (N₂ _ (List.mem_cons_of_mem _ hmT)).1, hcT, nt, hdT⟩
    have hn₂ : h₂.Ns C m' := hn.at' fun o e => hk₂ _ o (by simpa using Ne.symm hIC) e
    refine hgo (i + 1) _ _ _ T hst₂ ?_
    refine kcp_assign (env := compEnvC scope cl C env) hh hT (lookup_relabel_local hxa) (lookup_relabel_local hxb) (by simp [compEnvC, relabel, hkind]) hn₂ fun h₃ tk₃ hn₃ hs₃ => ?_
    obtain ⟨oI, heI⟩ := hStI _ _ hst₂
    have heI₃ := hs₃ I oI hIC heI
    obtain ⟨oC, heC, hoC⟩ := ns_obj hn₃
    have F₃ : Fr h₀ L h₃ m := ⟨(fr_but F hk₂ hIL hI₀).ns.at' fun o e => hs₃ _ o (Ne.symm hCL) e, fun c o e => hs₃ c o (fun q => by rw [show c = C from q, hC₀] at e; cases e) ((fr_but F hk₂ hIL hI₀).keep c o e), F.above⟩
    have nC : ∀ p ∈ (D, lst ys) :: news, p.1 ≠ C := fun p hp => by
      rcases List.mem_cons.mp hp with rfl | hp
      · exact Ne.symm hCD
      · exact (off3 p hp).2.1
    have N₃ : News h₀ L h₃ ((I, oI) :: (C, oC) :: (D, lst ys) :: news) := fun p hp => by
      rcases List.mem_cons.mp hp with rfl | hp
      · exact ⟨heI₃, Ne.symm hIL, hI₀⟩
      · rcases List.mem_cons.mp hp with rfl | hp
        · exact ⟨heC, hCL, hC₀⟩
        · exact ⟨hs₃ _ _ (nC p hp) (N₂ p hp).1, (N₂ p hp).2⟩
    have back : ∀ h₄, News h₀ L h₄ ((I, oI) :: (C, oC) :: (D, lst ys) :: news) → St (i + 1) h₄ ∧ h₄.Ns C _ ∧ News h₀ L h₄ ((D, lst ys) :: news) := fun h₄ N₄ =>
      ⟨hSt _ _ _ oI hst₂ heI (N₄ _ List.mem_cons_self).1 (N₄ _ (List.mem_cons_of_mem _ (List.mem_cons_of_mem _ (List.mem_cons_of_mem _ hax)))).1, hoC.ns (N₄ _ (List.mem_cons_of_mem _ List.mem_cons_self)).1, fun p hp => N₄ p (List.mem_cons_of_mem _ (List.mem_cons_of_mem _ hp))⟩
    refine wpAny_mono (tn I oI C oC D ys _ h₃ _ _ hoC (by simp [hab]) (by simp) F₃ N₃ off ⟨hIC, hID, hCD⟩) (fun ok s₃ hq => ?_) fun _ _ e => e
    cases ok with
    | false =>
      simp only [Bool.false_eq_true, if_false] at hq ⊢
      obtain ⟨h₄, tk₄, nw, rfl, F₄, N₄, _, _, rfl, hno⟩ := hq
      obtain ⟨st₄, ns₄, N₅⟩ := back h₄ N₄
      exact ⟨its.size + 1 - (i + 1), by omega, h₄, tk₄, i + 1, ys, _, rfl, hlt, rfl, .no hf hno, st₄, F₄, N₅, ns₄⟩
    | true =>
      simp only [if_true] at hq ⊢
      refine wpAny_mono hq (fun y s₄ hr => ?_) fun _ _ e => e
      obtain ⟨h₄, tk₄, nw, rfl, F₄, N₄, _, _, rfl, hel⟩ := hr
      obtain ⟨st₄, ns₄, N₅⟩ := back h₄ N₄
      refine append_at (hsz := by show ys.toArray.size ≤ sizeLine; rw [List.size_toArray]; have := hf.len; omega) (N₅ _ List.mem_cons_self).1 fun h₅ hs₅ hD₅ => ?_
      obtain ⟨oI', heI'⟩ := hStI _ _ st₄
      refine ⟨its.size + 1 - (i + 1), by omega, h₅, tk₄, i + 1, ys ++ [y], _, rfl, hlt, rfl, .yes hf hel, hSt _ _ _ oI' st₄ heI' (hs₅.extBut _ _ hID heI') (hs₅.extBut _ _ (off3 _ hax).2.2 (N₅ _ (List.mem_cons_of_mem _ hax)).1), F₄.change hs₅ hDL hD₀, fun p hp => ?_, ns₄.sameBut hs₅ hCD⟩
      rcases List.mem_cons.mp hp with rfl | hp
      · exact ⟨hD₅.trans (congrArg some (lst_snoc ys y)), hDL, hD₀⟩
      · exact ⟨hs₅.extBut _ _ (off3 p hp).2.2 (N₅ p (List.mem_cons_of_mem _ hp)).1, (N₅ p (List.mem_cons_of_mem _ hp)).2⟩
  · obtain rfl : i = its.size := Nat.le_antisymm hi (Nat.not_lt.mp hlt)
    refine W.done _ _ _ hst fun h₂ tk₂ hk₂ => ?_
    exact fin h₂ tk₂ m' ys (fr_but F hk₂ hIL hI₀) (news_but N hk₂ nI) (hn.at' fun o e => hk₂ _ o (by simpa using Ne.symm hIC) e) hf
end
section
variable {prog : Program} {w : World} {A : Around} {E : Value → Shared → Prop} {s : Shared} {h₀ : Heap} {L : Addr} {m : Str → Option Value} {env : Env}
open LCg in
theorem block_PT {elt iter ct : Expr} {a b : Str} {pa pb tp : Pos} {kk : Nat} {scope : Scope} {cl : List (Str × Addr)} {pos : Pos} {s₂ : Shared} {I ax : Addr} {its : Array Value} {o9 : Obj} {news : List (Addr × Obj)} {St : Nat → Heap → Prop}
    {El : Nat → Value → Prop} {No : Nat → Prop} {RR : Value → Addr → Result → Shared → Prop}
    (hh : A.handled = none) (hsz : its.size ≤ sizeLine) (W : Walks prog w A I [I, ax] [I] its.size (fun i v => its[i]? = some v) St)
    (hgo : ∀ i (s : Shared) (Q : Unit → Shared → Prop) (E : Value → Shared → Prop) T, St i s.heap → Q () s → wpAny (model prog w) A (letOwnedTupleGo (.Tuple [.Name a pa, .Name b pb] kk tp) (.ref I) (.ref T)) Q E s)
    (hStI : ∀ i h, St i h → ∃ o, h.get? I = some o)
    (hSt : ∀ i h h' o, St i h → h.get? I = some o → h'.get? I = some o → h'.get? ax = some o9 → St i h') (hax : (ax, o9) ∈ news)
    (hcell : ∀ y ∈ scope.names, y.2 ≠ .cell) (hkind : scope.kind = .function) (hxa : scope.names.lookup a = some .local) (hxb : scope.names.lookup b = some .local) (hab : ¬ a = b)
    (hIL : L ≠ I) (hI₀ : h₀.get? I = none) (hI : I < s₂.heap.objs.size) (offI : ∀ p ∈ news, p.1 ≠ I) (hst : St 0 s₂.heap) (F : Fr h₀ L s₂.heap m) (N : News h₀ L s₂.heap news)
    (turn : ∀ tk i v, its[i]? = some v → ∃ (T : Addr) (oT : Obj) (v₁ v₂ : Value) (nt : Nat), v = .ref T ∧ (T, oT) ∈ news ∧ oT.cls = .type "tuple" ∧ oT.data = .seq #[v₁, v₂] nt ∧ TurnPT prog w A h₀ L m env ct elt a b scope cl { s₂ with toks := tk } news (El i) (No i) v₁ v₂)
    (fin : ∀ D C h tk m' ys, Fr h₀ L h m → News h₀ L h ((D, lst ys) :: news) → Off1 D news → h.Ns C m' → h₀.get? C = none → C ≠ L → C ≠ D → (∀ p ∈ news, p.1 ≠ C) → Filt El No its.size ys → RR (.ref D) C (.ok .next) { s₂ with heap := h, toks := tk }) :
    wpAny (model prog w) A (newList []) (fun acc s₃ => wpAny (model prog w) A (newFunctionEnv scope env.globals cl [] env.qual none .none (some env)) (fun cenv s₄ =>
      codeAny (model prog w) A (.compStart (.ListComp elt [⟨.Tuple [.Name a pa, .Name b pb] kk tp, iter, [ct], 0⟩] scope pos) 0 (.ref I) acc { cenv with scope := relabel scope env }) (RR acc cenv.locals) s₄) E s₃) E s₂ := by
  refine wpAny_newObj_type (wpAny_newFunctionEnv hcell (by intro y hy; simp at hy) (fun h₁ hns₁ hsb₁ => ?_) hkind)
  dsimp only at hns₁ hsb₁ ⊢
  generalize hH2 : s₂.heap.push { cls := .type "list", dict := none, data := .seq ([] : List Value).toArray } = H2 at hns₁ hsb₁ ⊢
  have hC : H2.objs.size = s₂.heap.objs.size + 1 := by rw [← hH2, Heap.size_push]
  have hne : ∀ x, x < s₂.heap.objs.size → x ≠ H2.objs.size ∧ x ≠ s₂.heap.objs.size := fun x hx => ⟨by rw [hC]; exact Nat.ne_of_lt (Nat.lt_succ_of_lt hx), Nat.ne_of_lt hx⟩
  have hCD : H2.objs.size ≠ s₂.heap.objs.size := by rw [hC]; exact Nat.succ_ne_self _
  have up : ∀ x o, s₂.heap.get? x = some o → h₁.get? x = some o := fun x o e => hsb₁.extBut x o (hne x (Heap.lt_size e)).1 (Heap.get?_push_of_some _ (hH2 ▸ Heap.get?_push_of_some _ e))
  have hD : h₁.get? s₂.heap.objs.size = some (lst []) := hsb₁.extBut _ _ (Ne.symm hCD) (Heap.get?_push_of_some _ (hH2 ▸ Heap.get?_push_size _ rfl))
  have none₀ : ∀ x, s₂.heap.objs.size ≤ x → h₀.get? x = none := fun x hx => by
    cases e : h₀.get? x with
    | none => rfl
    | some o => exact absurd (Heap.lt_size (F.keep x o e)) (Nat.not_lt.mpr hx)
  have hD₀ := none₀ _ (Nat.le_refl s₂.heap.objs.size)
  have hC₀ := none₀ H2.objs.size (by rw [hC]; exact Nat.le_succ _)
  have hL := hne L F.ns.lt
  have nw := fun p (hp : p ∈ news) => hne p.1 (Heap.lt_size (N p hp).1)
  have off : Off3 I H2.objs.size s₂.heap.objs.size news := Off3.of fun p hp => ⟨offI p hp, (nw p hp).1, (nw p hp).2⟩
  have hst₁ : St 0 h₁ := W.frame _ _ _ hst fun x _ o e => up x o e
  have loop := fun (n : Nat) => loop_PT (R := RR (.ref s₂.heap.objs.size) H2.objs.size) (env := env) (iter := iter) (pos := pos) (s := s₂) (I := I) (C := H2.objs.size) (D := s₂.heap.objs.size) (o9 := o9) hh hsz W hgo hStI hSt hax hkind hxa hxb hab hIL hI₀ (Ne.symm hL.1) hC₀ (Ne.symm hL.2) hD₀ (hne I hI).1 (hne I hI).2 hCD off
    (fun i v hv => by obtain ⟨T, oT, v₁, v₂, nt, e1, e2, e3, e4, tn⟩ := turn s₂.toks i v hv; exact ⟨T, oT, v₁, v₂, nt, e1, e2, e3, e4, tn⟩)
    (fun h tk m' ys F' N' hn hf => fin _ _ h tk m' ys F' N' off.one hn hC₀ (Ne.symm hL.1) hCD (fun p hp => (nw p hp).1) hf) n h₁ (s₂.toks + ([] : List (Str × Value)).length) _ hst₁ (F.keeps up) (fun p hp => by
      rcases List.mem_cons.mp hp with rfl | hp
      · exact ⟨hD, Ne.symm hL.2, hD₀⟩
      · exact ⟨up _ _ (N p hp).1, (N p hp).2⟩) hns₁
  exact codeAny_compStart_list (loop 0) (W.self 0 _ _ _ hst₁ (loop 0))
open LCg in
/-- what is asked where the object is known over which the pairs stand -/
def SrcPT (prog : Program) (w : World) (A : Around) (h₀ : Heap) (L : Addr) (m : Str → Option Value) (env : Env) (ct elt : Expr) (a b : Str) (scope : Scope) (cl : List (Str × Addr)) (Q : Value → Shared → Prop) (xv : Value) (s₁ : Shared) : Prop :=
  ∃ (ax : Addr) (its : Array Value) (nt : Nat) (k : String) (news : List (Addr × Obj)) (El : Nat → Value → Prop) (No : Nat → Prop), xv = .ref ax ∧ (k = "list" ∨ k = "tuple") ∧ A.handled = none ∧ Fr h₀ L s₁.heap m ∧ News h₀ L s₁.heap news ∧ (ax, ({ cls := .type k, data := .seq its nt } : Obj)) ∈ news ∧ its.size ≤ sizeLine ∧
    (∀ g tk i v, its[i]? = some v → ∃ (T : Addr) (oT : Obj) (v₁ v₂ : Value) (nt : Nat), v = .ref T ∧ (T, oT) ∈ news ∧ oT.cls = .type "tuple" ∧ oT.data = .seq #[v₁, v₂] nt ∧ TurnPT prog w A h₀ L m env ct elt a b scope cl { s₁ with heap := g, toks := tk } news (El i) (No i) v₁ v₂) ∧
    ∀ D h tk ys, Filt El No its.size ys → Fr h₀ L h m → News h₀ L h ((D, lst ys) :: news) → Off1 D news → Q (.ref D) { s₁ with heap := h, toks := tk }
open LCg in
theorem ListComp_PT {elt iter ct : Expr} {a b : Str} {pa pb tp : Pos} {kk : Nat} {scope : Scope} {cl : List (Str × Addr)} {pos : Pos} {Q : Value → Shared → Prop}
    (hclos : closureFor scope env = pure cl) (hcell : ∀ y ∈ scope.names, y.2 ≠ .cell) (hkind : scope.kind = .function)
    (hnames : ∀ y ∈ scope.names, y.2 = .local → scope.names.lookup y.1 = some .local) (hxa : scope.names.lookup a = some .local) (hxb : scope.names.lookup b = some .local) (hab : ¬ a = b)
    (h : wpAny (model prog w) A (eval iter env) (SrcPT prog w A h₀ L m env ct elt a b scope cl Q) E s)
    (hs : ∀ x, foldedSetIterable iter env x = pure x := by intro _; rfl) :
    wpAny (model prog w) A (eval (.ListComp elt [⟨.Tuple [.Name a pa, .Name b pb] kk tp, iter, [ct], 0⟩] scope pos) env) Q E s := by
  rw [eval_ListComp]
  refine wpAny_comprehension_free (use := none) rfl hs hclos hkind hnames (wpAny_mono h (fun xv s₁ h₁ => ?_) fun _ _ e => e)
  obtain ⟨ax, its, nt, k, news, El, No, rfl, hk, hh, F, N, hax, hsz, turn, fin⟩ := h₁
  have hlt : ax < s₁.heap.objs.size := Heap.lt_size (N _ hax).1
  have hget := (N _ hax).1
  have hlt : ax < s₁.heap.objs.size := Heap.lt_size hget
  have post : ∀ (io : Obj) (D C : Addr) (h : Heap) (tk : Nat) (m' : Str → Option Value) (ys : List Value), Fr h₀ L h m → News h₀ L h ((D, lst ys) :: news) → Off1 D news → h.Ns C m' → h₀.get? C = none → C ≠ L → C ≠ D → (∀ p ∈ news, p.1 ≠ C) → Filt El No its.size ys →
      compPost (model prog w) A E none Q (.ref D) C (.ok .next) { s₁ with heap := h, toks := tk } := fun io D C h tk m' ys F' N' o1 hn hC₀ hCL hCD offC hf => by
    refine ⟨m', hn, fun h'' hs'' => fin D h'' tk ys hf (F'.change hs'' hCL hC₀) (fun p hp => ?_) o1⟩
    refine ⟨hs''.extBut _ _ ?_ (N' p hp).1, (N' p hp).2⟩
    rcases List.mem_cons.mp hp with rfl | hp
    · exact Ne.symm hCD
    · exact offC p hp
  rcases hk with rfl | rfl
  · have hl : s₁.heap.IsList ax its := ⟨_, hget, rfl, _, rfl⟩
    refine wpAny_pyIter_list hl ?_
    have up : ∀ b o, s₁.heap.get? b = some o → (s₁.heap.push { cls := .type "list_iterator", data := .fields #[.ref ax, .int 0 0] }).get? b = some o := fun b o e => Heap.get?_push_of_some _ e
    exact block_PT hh hsz (Walks.list hh s₁.heap.objs.size ax (Nat.ne_of_lt hlt) its) (fun i s Q E T st hQ => wpAny_letOwnedTupleGo_listiter st.1 hQ) (fun i h st => by obtain ⟨o, e, _⟩ := st.1; exact ⟨o, e⟩)
      (fun i h h' o st e e' ea => ⟨by obtain ⟨o', e1, r⟩ := st.1; rw [e] at e1; cases e1; exact ⟨o, e', r⟩, ⟨_, ea, rfl, _, rfl⟩⟩) hax hcell hkind hxa hxb hab (Nat.ne_of_lt F.ns.lt) (next_is_new F) (by show s₁.heap.objs.size < (s₁.heap.push _).objs.size; rw [Heap.size_push]; exact Nat.lt_succ_self _)
      (fun p hp => Nat.ne_of_lt (Heap.lt_size (N p hp).1)) ⟨⟨_, Heap.get?_push_size _ rfl, rfl, rfl⟩, hl.push _⟩ (F.keeps up) (N.grown up) (fun tk i v hv => turn _ tk i v hv) (post { cls := .type "list_iterator", data := .fields #[.ref ax, .int 0 0] })
  · have hl : s₁.heap.IsTuple ax its := ⟨_, hget, rfl, _, rfl⟩
    refine wpAny_pyIter_tuple hl ?_
    have up : ∀ b o, s₁.heap.get? b = some o → (s₁.heap.push { cls := .type "tuple_iterator", data := .fields #[.ref ax, .int 0 0] }).get? b = some o := fun b o e => Heap.get?_push_of_some _ e
    exact block_PT hh hsz (Walks.tuple hh s₁.heap.objs.size ax (Nat.ne_of_lt hlt) its) (fun i s Q E T st hQ => by obtain ⟨o, e, hc, hd⟩ := st.1; exact go_tup e hc (by decide) ⟨_, hd⟩ hQ) (fun i h st => by obtain ⟨o, e, _⟩ := st.1; exact ⟨o, e⟩)
      (fun i h h' o st e e' ea => ⟨by obtain ⟨o', e1, r⟩ := st.1; rw [e] at e1; cases e1; exact ⟨o, e', r⟩, ⟨_, ea, rfl, _, rfl⟩⟩) hax hcell hkind hxa hxb hab (Nat.ne_of_lt F.ns.lt) (next_is_new F) (by show s₁.heap.objs.size < (s₁.heap.push _).objs.size; rw [Heap.size_push]; exact Nat.lt_succ_self _)
      (fun p hp => Nat.ne_of_lt (Heap.lt_size (N p hp).1)) ⟨⟨_, Heap.get?_push_size _ rfl, rfl, rfl⟩, hl.push _⟩ (F.keeps up) (N.grown up) (fun tk i v hv => turn _ tk i v hv) (post { cls := .type "tuple_iterator", data := .fields #[.ref ax, .int 0 0] })
end
open LCg in
theorem SrcPT.of {prog : Program} {w : World} {A : Around} {h₀ : Heap} {L : Addr} {m : Str → Option Value} {env : Env} {ct elt : Expr} {a b : Str} {scope : Scope} {cl : List (Str × Addr)} {Q : Value → Shared → Prop} {ax : Addr} {s₁ : Shared}
    {its : Array Value} {nt : Nat} {k : String} {news : List (Addr × Obj)} (El : Nat → Value → Prop) (No : Nat → Prop) (F : Fr h₀ L s₁.heap m) (N : News h₀ L s₁.heap news) (hm : (ax, ({ cls := .type k, data := .seq its nt } : Obj)) ∈ news) (hk : k = "list" ∨ k = "tuple") (hh : A.handled = none) (hsz : its.size ≤ sizeLine)
    (turn : ∀ g tk i v, its[i]? = some v → ∃ (T : Addr) (oT : Obj) (v₁ v₂ : Value) (nt : Nat), v = .ref T ∧ (T, oT) ∈ news ∧ oT.cls = .type "tuple" ∧ oT.data = .seq #[v₁, v₂] nt ∧ TurnPT prog w A h₀ L m env ct elt a b scope cl { s₁ with heap := g, toks := tk } news (El i) (No i) v₁ v₂)
    (fin : ∀ D h tk ys, Filt El No its.size ys → Fr h₀ L h m → News h₀ L h ((D, lst ys) :: news) → Off1 D news → Q (.ref D) { s₁ with heap := h, toks := tk }) :
    SrcPT prog w A h₀ L m env ct elt a b scope cl Q (.ref ax) s₁ := ⟨ax, its, nt, k, news, El, No, rfl, hk, hh, F, N, hm, hsz, turn, fin⟩
theorem at3 {x y z v : Value} {i : Nat} (h : #[x, y, z][i]? = some v) : (i = 0 ∧ v = x) ∨ (i = 1 ∧ v = y) ∨ (i = 2 ∧ v = z) := by
  rcases i with _ | _ | _ | i
  · exact .inl ⟨rfl, (Option.some.inj h).symm⟩
  · exact .inr (.inl ⟨rfl, (Option.some.inj h).symm⟩)
  · exact .inr (.inr ⟨rfl, (Option.some.inj h).symm⟩)
  · simp at h
theorem pair_of {news : List (Addr × Obj)} {T : Addr} {v₁ v₂ : Value} {nt : Nat} {P : Value → Value → Prop} (hm : (T, ({ cls := .type "tuple", data := .seq #[v₁, v₂] nt } : Obj)) ∈ news) (h : P v₁ v₂) :
    ∃ (T' : Addr) (oT : Obj) (v₁ v₂ : Value) (nt : Nat), Value.ref T = .ref T' ∧ (T', oT) ∈ news ∧ oT.cls = .type "tuple" ∧ oT.data = .seq #[v₁, v₂] nt ∧ P v₁ v₂ := ⟨T, _, v₁, v₂, nt, rfl, hm, rfl, rfl, h⟩
section
variable {prog : Program} {w : World} {A : Around} {h₀ : Heap} {L : Addr} {m : Str → Option Value} {env : Env} {elt : Expr} {x : Str} {scope : Scope} {cl : List (Str × Addr)} {s : Shared} {S : List (Addr × Obj) → Prop} {P : Nat → Value → Prop} {Fin : List Value → List (Addr × Obj) → Prop} {news : List (Addr × Obj)}
abbrev NoF (_ : Nat) : Prop := False
/-- a comprehension without a test, turn by turn -/
theorem rest_U {n : Nat} (El : Nat → Value → Prop)
    (turn : ∀ k v I oI C oC D m₂ ys h tk (E' : Value → Shared → Prop), k < n → P k v → LCg.NsObj oC m₂ → m₂ x = some v → Fr h₀ L h m → News h₀ L h ((I, oI) :: (C, oC) :: (D, LCg.lst ys) :: news) → LCg.Off3 I C D news → ((@Ne Nat I C) ∧ (@Ne Nat I D) ∧ (@Ne Nat C D)) →
      wpAny (model prog w) A (eval elt (compEnvC scope cl C env)) (LCg.CompEnd h₀ L m { s with heap := h, toks := tk } I oI C oC D (LCg.lst ys) S (fun y news' => news' = news ∧ El k y)) E' { s with heap := h, toks := tk })
    (fin : ∀ ys, Filt El NoF n ys → Fin ys news) : LCg.CompRest prog w A h₀ L m env elt x scope cl s S P Fin n 0 [] news := by
  have key : ∀ (j i : Nat) (ys : List Value), i + j = n → Filt El NoF i ys → LCg.CompRest prog w A h₀ L m env elt x scope cl s S P Fin j i ys news := by
    intro j
    induction j with
    | zero =>
      intro i ys hi hy
      obtain rfl : i = n := hi
      exact LCg.CompRest.zero (fin ys hy)
    | succ j ih =>
      intro i ys hi hy
      refine LCg.CompRest.succ ?_
      intro v I oI C oC D m₂ h tk E' hv hC hx F N off ne
      refine wpAny_mono (turn i v I oI C oC D m₂ ys h tk E' (by omega) hv hC hx F N off ne) (fun y s₃ hr => ?_) fun _ _ e => e
      obtain ⟨h', tk', nw, e, F', N', off', hS, rfl, hel⟩ := hr
      exact ⟨h', tk', _, e, F', N', off', hS, ih (i + 1) _ (by omega) (.yes hy hel)⟩
  exact key n 0 [] (Nat.zero_add n) .zero
end
theorem filt_last {C : Prop} {El : Nat → Value → Prop} {i : Nat} {ys : List Value} (h : Filt El NoF (i + 1) ys) (k : ∀ ys' y, Filt El NoF i ys' → El i y → ys = ys' ++ [y] → C) : C := by
  cases h with
  | yes hy he => exact k _ _ hy he rfl
  | no _ hn => exact hn.elim
theorem filt_seven {C : Prop} {El : Nat → Value → Prop} {ys : List Value} (h : Filt El NoF 7 ys) (k : ∀ y0 y1 y2 y3 y4 y5 y6, ys = [y0, y1, y2, y3, y4, y5, y6] → El 0 y0 → El 1 y1 → El 2 y2 → El 3 y3 → El 4 y4 → El 5 y5 → El 6 y6 → C) : C :=
  filt_last h fun _ y6 h e6 q6 => filt_last h fun _ y5 h e5 q5 => filt_last h fun _ y4 h e4 q4 => filt_last h fun _ y3 h e3 q3 => filt_last h fun _ y2 h e2 q2 => filt_last h fun _ y1 h e1 q1 => filt_last h fun zs y0 h e0 q0 => by
    have hz : zs = [] := by cases h; rfl
    exact k y0 y1 y2 y3 y4 y5 y6 (by rw [q6, q5, q4, q3, q2, q1, q0, hz]; rfl) e0 e1 e2 e3 e4 e5 e6
theorem fnAt_K {K : Frag} {h : Heap} {f : Addr} {oc : Value} {od : Option Addr} {fd : FuncData} {sl : Array (Option Value)} (X : K.In h) (e : K.lookup f = some ⟨oc, od, .func fd, sl⟩) : FnAt f h := ⟨_, _, _, _, X _ _ e⟩
def RowAt (b : Array UInt8) (i : Nat) (c : Array UInt8) : Prop := c.size = 7 ∧ ∀ k, k < 7 → (bN c).getD k 0 = (bN b).getD (7 * i + 6 - k) 0
def RowsAt (b : Array UInt8) (cs : List (Array UInt8)) : Prop := ∀ i c, cs[i]? = some c → RowAt b i c
theorem rowAt_of {b arr c : Array UInt8} {i x : Nat} (hP : SwP b 7 0 arr) (h : CutAt arr x c) (hx : x = 7 * i) (hi : i < 7) : RowAt b i c := by
  subst hx
  refine ⟨h.1, fun k hk => ?_⟩
  have h1 := hP.2.1 i hi (6 - k) (by omega)
  rw [h.2 k hk, show 7 * i + k = 7 * i + 6 - (6 - k) by omega, h1, show 7 * i + (6 - k) = 7 * i + 6 - k by omega]
theorem rowsAt_of {b arr c0 c1 c2 c3 c4 c5 c6 : Array UInt8} (hP : SwP b 7 0 arr) (h0 : CutAt arr (7 * 0) c0) (h1 : CutAt arr (7 * 1) c1) (h2 : CutAt arr (7 * 2) c2) (h3 : CutAt arr (7 * 3) c3) (h4 : CutAt arr (7 * 4) c4) (h5 : CutAt arr (7 * 5) c5) (h6 : CutAt arr (7 * 6) c6) :
    RowsAt b [c0, c1, c2, c3, c4, c5, c6] := by
  intro i c hc
  match i, hc with
  | 0, hc => cases hc; exact rowAt_of hP h0 rfl (by decide)
  | 1, hc => cases hc; exact rowAt_of hP h1 rfl (by decide)
  | 2, hc => cases hc; exact rowAt_of hP h2 rfl (by decide)
  | 3, hc => cases hc; exact rowAt_of hP h3 rfl (by decide)
  | 4, hc => cases hc; exact rowAt_of hP h4 rfl (by decide)
  | 5, hc => cases hc; exact rowAt_of hP h5 rfl (by decide)
  | 6, hc => cases hc; exact rowAt_of hP h6 rfl (by decide)
  | n + 7, hc => cases hc
theorem ne_new {g h : Heap} {L' D : Addr} {o : Obj} {ps news : List (Addr × Obj)} (KP : Kept news g) (N : News g L' h ((D, o) :: ps)) : ∀ p ∈ news, @Ne Nat p.1 D := fun p hp e => by
  have h1 : g.get? D = none := (N _ (.head _)).2.2
  have h2 := KP p hp
  rw [show p.1 = D from e, h1] at h2
  cases h2
theorem rows_C {w : World} {mean : ExcName → Option Value} {mg mb : Str → Option Value} (news : List (Addr × Obj)) (b : Array UInt8) (t : Tok) (hb : b.size = 49)
  (dp un : Nat) (gd : Option (List Code)) (cn : Str) (cs : Scope) (a : Addr) (ccd : Value) (cl : List (Str × Addr)) (outer : List Env) (A₀ : Around) (base h₀ : Heap) (L : Addr) (m : Str → Option Value) (s : Shared) (R : Result → Shared → Prop)
  (B : Below A₀ base outer h₀) (F : Fr h₀ L s.heap m) (X : (hd.heap_1 w.params).In h₀) (N : News h₀ L s.heap news) (T : Top topProg LZ mean mg mb h₀) (hcs : cs.kind = .function)
  (hdp : dp + 12 < recursionLimit) (hun : un + 8 * 12 < cLine)
  (hret : ∀ D c0 c1 c2 c3 c4 c5 c6 t0 t1 t2 t3 t4 t5 t6 h' tk', RowsAt b [c0, c1, c2, c3, c4, c5, c6] → Fr h₀ L h' m → News h₀ L h' ((D, LCg.lst [.bytes c0 t0, .bytes c1 t1, .bytes c2 t2, .bytes c3 t3, .bytes c4 t4, .bytes c5 t5, .bytes c6 t6]) :: news) → (∀ p ∈ news, @Ne Nat p.1 D) → R (.ok (.ret (.ref D))) { s with heap := h', toks := tk' }) :
  codeN (model PG w) (ktrTop dp un gd cn cs L a ccd cl outer) (.call (.ref 109) ⟨[.bytes b t], []⟩) R s := by
  k_dflt (refine' code_defC2N N (fun _ _ h => by cases h) ?k1 ?k2 ?k3 (own := []) (fun _ h => by cases h) ?k5 ?kA ?kF ?kK ?k6 ?k7 ?k8 ?k9 ?kB ?kD ?_ ?c2 ?c3 ?c4)
  (case kA => exact rfl)
  (case kF => exact rfl)
  (case kK => first | exact rfl | assumption)
  (case k1 => k_asm)
  (case k2 => k_asm)
  (case k3 => k_asm)
  (case k5 => k_asm)
  (case k6 => k_dflt k_is)
  (case k7 => k_dflt k_is)
  (case k8 => ktr_room)
  (case k9 => exact BindsTo.of_eq rfl)
  (case kB => exact rfl)
  (case kD => decide +kernel)
  (case c2 => exact rfl)
  (case c3 => exact rfl)
  (case c4 => exact rfl)
  intro g' L' h' tk' cells' KP hRL FG' F' N' Y' B' X' T' l1
  k_lt l1
  k_cells Y'
  simp only [List.cons_append, List.nil_append] at N'
  try dsimp only
  k_lift B'
  try k_fold
  refine wpN_execs_cons (wpN_Assign_Name ?_)
  refine wpN_Call_Name (.ref 90) rfl ?_
  k_steps
  refine ⟨rfl, wpN_fn1 ?_⟩
  k_steps
  (rename Fr g' _ _ _ => F9)
  have hfn : FnAt 90 h' := by
    refine' fnAt_K (K := hd.heap_1 w.params) (X'.keeps F9.keep) ?e1
    (case e1 => k_dflt k_is)
  refine ⟨(fun a e => by cases e; exact hfn), wpN_call ?_⟩
  refine' swap_C _ b t _ hb _ _ _ _ _ _ _ _ _ _ _ _ _ _ _ _ ?cB ?cF ?cX ?cN ?cT ?cK ?cD ?cU ?_
  (((case cB => k_asm); (case cF => k_asm); (case cX => k_asm); (case cN => k_asm); (case cT => k_asm); (case cK => first | exact rfl | assumption); (case cD => ktr_room); (case cU => ktr_units)))
  intro arr t1 h1 tk1 hP F1 N1
  have hsz : arr.size = 49 := hP.1
  try dsimp only
  k_steps
  refine ⟨rfl, wpN_of ?_⟩
  (repeat' (first | (k_unfold; (try dsimp only)) | (k_end; wrow_close) | ((fail_if_success (with_reducible show wpAny _ _ (eval (Expr.ListComp _ _ _ _) _) _ _ _)); walk1) | (dsimp only; (fail_if_success (with_reducible show wpAny _ _ (eval (Expr.ListComp _ _ _ _) _) _ _ _)); walk1)))
  k_dflt (refine ListComp_St (by k_asm) (by rfl) (by decide) (by rfl) (by decide) (by rfl) ?_)
  k_steps
  refine' ⟨_, _, _, _, _, _, _, 7, _, rfl, rfl, ?e1, ?e2, ?e3, ?e4, ?e5, ?e6, ?_⟩
  (case e1 => k_asm)
  (case e2 => k_asm)
  (case e3 => k_asm)
  (case e4 => decide)
  (case e5 => decide)
  (case e6 => rw [sizeLine_eq]; decide)
  rintro _ ⟨g9, rfl⟩
  refine rest_U (fun k y => ∃ c t, y = Value.bytes c t ∧ CutAt arr (7 * k) c) ?_ ?_
  · intro k v I oI C oC D m2 ys h tk E5 hk hv hC hx F5 N5 off ne
    obtain ⟨t9, rfl⟩ := hv
    dsimp only
    k_steps
    (with_reducible rename Fr _ _ _ _ => F9')
    (with_reducible rename News _ _ _ _ => N9')
    (with_reducible rename CutAt _ _ _ => c9')
    refine LCg.CompEnd.intro F9' N9' _ (fun _ h => h) off trivial ⟨rfl, _, _, rfl, ?_⟩
    have e9 : (0 + (k : Nat) * 7 : Int).toNat = 7 * k := by omega
    rw [← e9]; exact c9'
  · intro ys hf D h tk F5 N5 o1
    refine filt_seven hf ?_
    rintro _ _ _ _ _ _ _ rfl ⟨c0, t0, rfl, a0⟩ ⟨c1, t1, rfl, a1⟩ ⟨c2, t2, rfl, a2⟩ ⟨c3, t3, rfl, a3⟩ ⟨c4, t4, rfl, a4⟩ ⟨c5, t5, rfl, a5⟩ ⟨c6, t6, rfl, a6⟩
    k_steps
    refine' hret _ _ _ _ _ _ _ _ _ _ _ _ _ _ _ _ _ (rowsAt_of hP a0 a1 a2 a3 a4 a5 a6) ?z1 ?z2 ?z3
    (case z1 => k_asm)
    (case z2 => exact news_more KP (by k_asm) N (news_sub (own := [_]) (by k_asm) (fun p hp => by rw [List.mem_singleton.mp hp]; exact .head _)))
    (case z3 => exact ne_new KP (by k_asm))
section
variable {prog : Program} {w : World} {A : Around} {E : Value → Shared → Prop} {R : Result → Shared → Prop} {s : Shared}
theorem turn_in (elt t0 i0 t1 i1 : Expr) (scope : Scope) (pos : Pos) (it acc : Value) (env : Env) :
    compTurn (.ListComp elt [⟨t0, i0, [], 0⟩, ⟨t1, i1, [], 0⟩] scope pos) 1 it acc env = (standAt i1.pos >>= fun _ => pyNext it >>= fun r => match r with
      | none => pure (.done .next)
      | some v => letOwnedTupleGo t1 it v >>= fun _ => assign t1 env v >>= fun _ =>
        (eval elt env >>= fun x => call (.builtin "list.append") [acc, x] >>= fun _ => pure ()) >>= fun _ =>
          again (.compLoop (.ListComp elt [⟨t0, i0, [], 0⟩, ⟨t1, i1, [], 0⟩] scope pos) 1 it acc env)) := by rfl
theorem turn_out (elt t0 i0 t1 i1 : Expr) (scope : Scope) (pos : Pos) (it acc : Value) (env : Env) :
    compTurn (.ListComp elt [⟨t0, i0, [], 0⟩, ⟨t1, i1, [], 0⟩] scope pos) 0 it acc env = (standAt i0.pos >>= fun _ => pyNext it >>= fun r => match r with
      | none => pure (.done .next)
      | some v => letOwnedTupleGo t0 it v >>= fun _ => assign t0 env v >>= fun _ =>
        eval i1 env >>= fun x => standAt i1.pos >>= fun _ => foldedSetIterable i1 env x >>= fun x => holding [x] (pyIter x) >>= fun it' =>
          runOwn (.compStart (.ListComp elt [⟨t0, i0, [], 0⟩, ⟨t1, i1, [], 0⟩] scope pos) 1 it' acc env) env >>= fun _ =>
          again (.compLoop (.ListComp elt [⟨t0, i0, [], 0⟩, ⟨t1, i1, [], 0⟩] scope pos) 0 it acc env)) := by rfl
theorem loop_in {elt t0 i0 t1 i1 : Expr} {scope : Scope} {pos : Pos} {it acc : Value} {env : Env} (I : Nat → Shared → Prop)
    (turn : ∀ n s, I n s → wpAny (model prog w) A (pyNext it) (fun r s₁ => match r with
      | none => R (.ok .next) s₁
      | some v => wpAny (model prog w) A (assign t1 env v) (fun _ s₂ => wpAny (model prog w) A (eval elt env) (fun x s₃ =>
          wpAny (model prog w) A (call (.builtin "list.append") [acc, x]) (fun _ s₄ => ∃ m, m < n ∧ I m s₄) (notedBy (model prog w) A env fun e s' => R (.error e) s') s₃)
          (notedBy (model prog w) A env fun e s' => R (.error e) s') s₂) (notedBy (model prog w) A env fun e s' => R (.error e) s') s₁) (notedBy (model prog w) A env fun e s' => R (.error e) s') s)
    (n : Nat) (h : I n s) (ht : ∀ v, letOwnedTupleGo t1 it v = pure () := by intro _; rfl) :
    codeAny (model prog w) A (.compLoop (.ListComp elt [⟨t0, i0, [], 0⟩, ⟨t1, i1, [], 0⟩] scope pos) 1 it acc env) R s := by
  refine codeAny_loop rfl I (fun n s hI => ?_) n h
  show wpAny _ _ ((compTurn (.ListComp elt [⟨t0, i0, [], 0⟩, ⟨t1, i1, [], 0⟩] scope pos) 1 it acc env).onRaise (fun x => do noteFrame x env; theTreesLotGoes x)) _ _ s
  refine wpAny_noted ?_
  rw [turn_in]
  refine wpAny_bind (wpAny_standAt (wpAny_bind (wpAny_mono (turn n s hI) (fun r s₁ h₁ => ?_) fun _ _ h' => h')))
  cases r with
  | none => exact wpAny_pure h₁
  | some v =>
    refine wpAny_bind (wpAny_of_eq (ht v) ?_)
    exact wpAny_bind (wpAny_mono h₁ (fun _ s₂ h₂ => wpAny_bind (wpAny_bind (wpAny_mono h₂ (fun x s₃ h₃ => wpAny_bind (wpAny_mono h₃
      (fun _ s₄ h₄ => wpAny_pure (wpAny_pure ⟨rfl, h₄⟩)) fun _ _ h' => h')) fun _ _ h' => h'))) fun _ _ h' => h')
theorem start_in {elt t0 i0 t1 i1 : Expr} {scope : Scope} {pos : Pos} {it acc : Value} {env : Env}
    (h0 : codeAny (model prog w) A (.compLoop (.ListComp elt [⟨t0, i0, [], 0⟩, ⟨t1, i1, [], 0⟩] scope pos) 1 it acc env) R s)
    (h : wpAny (model prog w) A (pyIter it) (fun it' s' => codeAny (model prog w) A (.compLoop (.ListComp elt [⟨t0, i0, [], 0⟩, ⟨t1, i1, [], 0⟩] scope pos) 1 it' acc env) R s') (notedBy (model prog w) A env fun x s' => R (.error x) s') s) :
    codeAny (model prog w) A (.compStart (.ListComp elt [⟨t0, i0, [], 0⟩, ⟨t1, i1, [], 0⟩] scope pos) 1 it acc env) R s := by
  refine codeAny_of_tree ?_
  show wpAny _ _ ((compStart (.ListComp elt [⟨t0, i0, [], 0⟩, ⟨t1, i1, [], 0⟩] scope pos) 1 it acc env).onRaise (fun x => do noteFrame x env; standAt theWindowsPlace)) _ _ s
  refine wpAny_notedAt ?_
  unfold compStart
  show wpAny _ _ (ask >>= _) _ _ s
  refine wpAny_bind (wpAny_askSetting (wpAny_ite ?_))
  split
  · first
      | exact wpAny_bind (wpAny_pure (wpAny_pure (And.intro rfl h0)))
      | exact wpAny_pure (And.intro rfl h0)
  · first
      | exact wpAny_bind (wpAny_rule (wpAny_bind (wpAny_standAt (wpAny_bind (wpAny_mono h (fun it' s' h' => wpAny_pure (And.intro rfl h')) fun _ _ x => x)))))
      | (refine wpAny_bind (wpAny_rule ?_); show wpAny _ _ (standAt i1.pos >>= _) _ _ s; exact wpAny_bind (wpAny_standAt (wpAny_bind (wpAny_mono h (fun it' s' h' => wpAny_pure (And.intro rfl h')) fun _ _ x => x))))
theorem loop_out {elt t0 i0 t1 i1 : Expr} {scope : Scope} {pos : Pos} {it acc : Value} {env : Env} (I : Nat → Shared → Prop)
    (turn : ∀ n s, I n s → wpAny (model prog w) A (pyNext it) (fun r s₁ => match r with
      | none => R (.ok .next) s₁
      | some v => wpAny (model prog w) A (assign t0 env v) (fun _ s₂ => wpAny (model prog w) A (eval i1 env) (fun x s₃ => wpAny (model prog w) A (pyIter x) (fun it' s₄ =>
          codeAny (model prog w) (A.mark none) (.compStart (.ListComp elt [⟨t0, i0, [], 0⟩, ⟨t1, i1, [], 0⟩] scope pos) 1 it' acc env) (fun r s₅ => r = .ok .next ∧ ∃ m, m < n ∧ I m s₅) s₄)
          (notedBy (model prog w) A env fun e s' => R (.error e) s') s₃)
          (notedBy (model prog w) A env fun e s' => R (.error e) s') s₂) (notedBy (model prog w) A env fun e s' => R (.error e) s') s₁) (notedBy (model prog w) A env fun e s' => R (.error e) s') s)
    (n : Nat) (h : I n s) (hs : ∀ x, foldedSetIterable i1 env x = pure x) (ht : ∀ v, letOwnedTupleGo t0 it v = pure () := by intro _; rfl) :
    codeAny (model prog w) A (.compLoop (.ListComp elt [⟨t0, i0, [], 0⟩, ⟨t1, i1, [], 0⟩] scope pos) 0 it acc env) R s := by
  refine codeAny_loop rfl I (fun n s hI => ?_) n h
  show wpAny _ _ ((compTurn (.ListComp elt [⟨t0, i0, [], 0⟩, ⟨t1, i1, [], 0⟩] scope pos) 0 it acc env).onRaise (fun x => do noteFrame x env; theTreesLotGoes x)) _ _ s
  refine wpAny_noted ?_
  rw [turn_out]
  refine wpAny_bind (wpAny_standAt (wpAny_bind (wpAny_mono (turn n s hI) (fun r s₁ h₁ => ?_) fun _ _ h' => h')))
  cases r with
  | none => exact wpAny_pure h₁
  | some v =>
    refine wpAny_bind (wpAny_of_eq (ht v) ?_)
    refine wpAny_bind (wpAny_mono h₁ (fun _ s₂ h₂ => wpAny_bind (wpAny_mono h₂ (fun x s₃ h₃ => ?_) fun _ _ h' => h')) fun _ _ h' => h')
    refine wpAny_bind (wpAny_standAt (wpAny_bind (wpAny_of_eq (hs x) ?_)))
    refine wpAny_bind (wpAny_holding (wpAny_mono h₃ (fun it' s₄ h₄ => ?_) fun _ _ h' => h'))
    refine wpAny_bind (wpAny_runOwn (codeAny_mono h₄ fun r s₅ h₅ => ?_))
    obtain ⟨rfl, h₅⟩ := h₅
    exact wpAny_pure ⟨rfl, h₅⟩
end
section
variable {prog : Program} {w : World} {A : Around} {E : Value → Shared → Prop} {h₀ : Heap} {L : Addr} {m : Str → Option Value} {env : Env}
/-- apart from the four objects of the two loops -/
def Apart4 (I J C D : Addr) (nw : List (Addr × Obj)) : Prop := ∀ p ∈ nw, @Ne Nat p.1 I ∧ @Ne Nat p.1 J ∧ @Ne Nat p.1 C ∧ @Ne Nat p.1 D
def TurnIn (prog : Program) (w : World) (A : Around) (h₀ : Heap) (L : Addr) (m : Str → Option Value) (env : Env) (elt : Expr) (x y : Str) (scope : Scope) (cl : List (Str × Addr)) (s : Shared) (v : Value) (j : Nat) (ys : List Value) (nw : List (Addr × Obj)) (G : List Value → List (Addr × Obj) → Prop) : Prop :=
  ∀ I oI J oJ C oC D m₂ h tk t (E' : Value → Shared → Prop), LCg.NsObj oC m₂ → m₂ x = some v → m₂ y = some (.int (j : Nat) t) → Fr h₀ L h m → News h₀ L h ((J, oJ) :: (I, oI) :: (C, oC) :: (D, LCg.lst ys) :: nw) → Apart4 I J C D nw →
    wpAny (model prog w) A (eval elt (compEnvC scope cl C env)) (fun z s' => ∃ h' tk' nw', s' = { s with heap := h', toks := tk' } ∧ Fr h₀ L h' m ∧ News h₀ L h' ((J, oJ) :: (I, oI) :: (C, oC) :: (D, LCg.lst ys) :: nw') ∧ Apart4 I J C D nw' ∧ G (ys ++ [z]) nw') E' { s with heap := h, toks := tk }
def IterIn (prog : Program) (w : World) (A : Around) (h₀ : Heap) (L : Addr) (m : Str → Option Value) (env : Env) (i1 : Expr) (x : Str) (scope : Scope) (cl : List (Str × Addr)) (s : Shared) (v : Value) (n : Nat) (ys : List Value) (nw : List (Addr × Obj)) : Prop :=
  ∀ I oI C oC D m₂ h tk (E' : Value → Shared → Prop), LCg.NsObj oC m₂ → m₂ x = some v → Fr h₀ L h m → News h₀ L h ((I, oI) :: (C, oC) :: (D, LCg.lst ys) :: nw) →
    wpAny (model prog w) A (eval i1 (compEnvC scope cl C env)) (fun xv s' => ∃ r h' tk' t u v', xv = .ref r ∧ s' = { s with heap := h', toks := tk' } ∧ IsRange h' r 0 (n : Int) 1 t u v' ∧ Fr h₀ L h' m ∧ News h₀ L h' ((I, oI) :: (C, oC) :: (D, LCg.lst ys) :: nw)) E' { s with heap := h, toks := tk }
open LCg in
theorem inner_two {elt t0 i0 i1 : Expr} {x y : Str} {py : Pos} {scope : Scope} {cl : List (Str × Addr)} {pos : Pos} {s : Shared} {I J C D : Addr} {oI : Obj} {n : Nat} {v : Value} {G : Nat → List Value → List (Addr × Obj) → Prop} {R : Result → Shared → Prop}
    (hh : A.handled = none) (hn : n ≤ 100) (hkind : scope.kind = .function) (hy : scope.names.lookup y = some .local) (hxy : ¬ x = y)
    (hIL : L ≠ I) (hJL : L ≠ J) (hJ₀ : h₀.get? J = none) (hCL : C ≠ L) (hC₀ : h₀.get? C = none) (hDL : D ≠ L) (hD₀ : h₀.get? D = none) (hIC : I ≠ C) (hID : I ≠ D) (hCD : C ≠ D) (hJI : J ≠ I) (hJC : J ≠ C) (hJD : J ≠ D)
    (hG : ∀ j ys nw, G j ys nw → ys.length ≤ 1000)
    (turn : ∀ j ys nw, j < n → G j ys nw → TurnIn prog w A h₀ L m env elt x y scope cl s v j ys nw (G (j + 1)))
    (fin : ∀ h tk m' ys nw, Fr h₀ L h m → News h₀ L h ((I, oI) :: (D, lst ys) :: nw) → h.Ns C m' → Apart4 I J C D nw → G n ys nw → R (.ok .next) { s with heap := h, toks := tk })
    (h : Heap) (tk : Nat) (m' : Str → Option Value) (ys : List Value) (nw : List (Addr × Obj)) (hx : m' x = some v) (hst : IsRangeIter h J 0 (n : Int) 1) (F : Fr h₀ L h m) (N : News h₀ L h ((I, oI) :: (D, lst ys) :: nw)) (hns : h.Ns C m') (ap : Apart4 I J C D nw) (g : G 0 ys nw) :
    codeAny (model prog w) A (.compLoop (.ListComp elt [⟨t0, i0, [], 0⟩, ⟨.Name y py, i1, [], 0⟩] scope pos) 1 (.ref J) (.ref D) (compEnvC scope cl C env)) R { s with heap := h, toks := tk } := by
  have W := Walks.range (prog := prog) (w := w) (A := A) hh J 0 1 n
  refine loop_in (fun k s' => ∃ h tk j ys nw m', s' = { s with heap := h, toks := tk } ∧ j ≤ n ∧ k = n + 1 - j ∧ IsRangeIter h J (0 + (j : Nat) * 1) ((n : Int) - (j : Nat)) 1 ∧ Fr h₀ L h m ∧ News h₀ L h ((I, oI) :: (D, lst ys) :: nw) ∧ h.Ns C m' ∧ m' x = some v ∧ Apart4 I J C D nw ∧ G j ys nw) ?_ (n + 1)
    ⟨h, tk, 0, ys, nw, m', rfl, Nat.zero_le _, rfl, by simpa using hst, F, N, hns, hx, ap, g⟩
  rintro k s' ⟨h, tk, j, ys, nw, m', rfl, hj, rfl, hst, F, N, hns, hx, ap, g⟩
  have nJ : ∀ p ∈ (I, oI) :: (D, lst ys) :: nw, p.1 ≠ J := fun p hp => by
    rcases List.mem_cons.mp hp with rfl | hp
    · exact Ne.symm hJI
    · rcases List.mem_cons.mp hp with rfl | hp
      · exact Ne.symm hJD
      · exact (ap p hp).2.1
  by_cases hlt : j < n
  · refine W.item j _ _ _ hlt hst fun z h₂ tk₂ hv hst₂ hk₂ => ?_
    dsimp only
    obtain ⟨t, rfl⟩ := hv
    have hns₂ : h₂.Ns C m' := hns.at' fun o e => hk₂ _ o (by simpa using Ne.symm hJC) e
    have N₂ : News h₀ L h₂ ((I, oI) :: (D, lst ys) :: nw) := news_but N hk₂ nJ
    refine wpAny_assign_Name (wpAny_storeName_local (lookup_relabel_local hy) hns₂ (fun h₃ hn₃ hs₃ => ?_) (by simp [compEnvC, relabel, hkind]))
    obtain ⟨oC, heC, hoC⟩ := ns_obj hn₃
    have st₃ := hst₂
    obtain ⟨oJ, heJ⟩ : ∃ oJ, h₂.get? J = some oJ := ⟨_, hst₂⟩
    have heJ₃ := hs₃.extBut _ _ hJC heJ
    have F₃ : Fr h₀ L h₃ m := (fr_but F hk₂ hJL hJ₀).change hs₃ hCL hC₀
    have nC : ∀ p ∈ (I, oI) :: (D, lst ys) :: nw, p.1 ≠ C := fun p hp => by
      rcases List.mem_cons.mp hp with rfl | hp
      · exact hIC
      · rcases List.mem_cons.mp hp with rfl | hp
        · exact Ne.symm hCD
        · exact (ap p hp).2.2.1
    have N₃ : News h₀ L h₃ ((J, oJ) :: (I, oI) :: (C, oC) :: (D, lst ys) :: nw) := fun p hp => by
      have old : ∀ q ∈ (I, oI) :: (D, lst ys) :: nw, h₃.get? q.1 = some q.2 ∧ q.1 ≠ L ∧ h₀.get? q.1 = none := fun q hq => ⟨hs₃.extBut _ _ (nC q hq) (N₂ q hq).1, (N₂ q hq).2⟩
      rcases List.mem_cons.mp hp with rfl | hp
      · exact ⟨heJ₃, Ne.symm hJL, hJ₀⟩
      · rcases List.mem_cons.mp hp with rfl | hp
        · exact old _ List.mem_cons_self
        · rcases List.mem_cons.mp hp with rfl | hp
          · exact ⟨heC, hCL, hC₀⟩
          · exact old p (List.mem_cons_of_mem _ hp)
    refine wpAny_mono (turn j ys nw hlt g I oI J oJ C oC D _ h₃ _ t _ hoC (by simp [hxy, hx]) (by simp) F₃ N₃ ap) (fun z s₄ hq => ?_) fun _ _ e => e
    obtain ⟨h₄, tk₄, nw₄, rfl, F₄, N₄, ap₄, g₄⟩ := hq
    have zJ := (N₄ _ List.mem_cons_self).1
    have zC := (N₄ (C, oC) (by simp)).1
    have zD := N₄ (D, lst ys) (by simp)
    have hstJ : IsRangeIter h₄ J (0 + ((j + 1 : Nat) : Int) * 1) ((n : Int) - ((j + 1 : Nat) : Int)) 1 := by
      show h₄.get? J = some _
      rw [zJ, ← heJ]; exact hst₂
    refine append_at (hsz := by show ys.toArray.size ≤ sizeLine; rw [List.size_toArray, sizeLine_eq]; have := hG _ _ _ g; omega) zD.1 fun h₅ hs₅ hD₅ => ?_
    refine ⟨n + 1 - (j + 1), by omega, h₅, tk₄, j + 1, ys ++ [z], nw₄, _, rfl, hlt, rfl, ?_, F₄.change hs₅ hDL hD₀, fun p hp => ?_, (hoC.ns zC).sameBut hs₅ hCD, by simp [hxy, hx], ap₄, g₄⟩
    · show h₅.get? J = some _
      rw [hs₅.extBut _ _ hJD zJ, ← zJ]; exact hstJ
    · rcases List.mem_cons.mp hp with rfl | hp
      · exact ⟨hs₅.extBut _ _ hID (N₄ (I, oI) (by simp)).1, (N₄ (I, oI) (by simp)).2⟩
      · rcases List.mem_cons.mp hp with rfl | hp
        · exact ⟨hD₅.trans (congrArg some (lst_snoc ys z)), hDL, hD₀⟩
        · have z9 := N₄ p (by simp [hp])
          exact ⟨hs₅.extBut _ _ (ap₄ p hp).2.2.2 z9.1, z9.2⟩
  · obtain rfl : j = n := Nat.le_antisymm hj (Nat.not_lt.mp hlt)
    refine W.done _ _ _ hst fun h₂ tk₂ hk₂ => ?_
    exact fin h₂ tk₂ m' ys nw (fr_but F hk₂ hJL hJ₀) (news_but N hk₂ nJ) (hns.at' fun o e => hk₂ _ o (by simpa using Ne.symm hJC) e) ap g
end
section
variable {prog : Program} {w : World} {A : Around} {E : Value → Shared → Prop} {h₀ : Heap} {L : Addr} {m : Str → Option Value} {env : Env}
def Apart3 (I C D : Addr) (nw : List (Addr × Obj)) : Prop := ∀ p ∈ nw, @Ne Nat p.1 I ∧ @Ne Nat p.1 C ∧ @Ne Nat p.1 D
/-- what one item of the outer list asks -/
def OutTurn (prog : Program) (w : World) (A : Around) (h₀ : Heap) (L : Addr) (m : Str → Option Value) (env : Env) (i1 elt : Expr) (x y : Str) (scope : Scope) (cl : List (Str × Addr)) (s : Shared) (v : Value) (H H' : List Value → List (Addr × Obj) → Prop) : Prop :=
  ∃ (n : Nat) (G : Nat → List Value → List (Addr × Obj) → Prop), n ≤ 100 ∧ (∀ j ys nw, G j ys nw → ys.length ≤ 1000) ∧ (∀ ys nw, H ys nw → G 0 ys nw) ∧ (∀ ys nw, H ys nw → IterIn prog w A h₀ L m env i1 x scope cl s v n ys nw) ∧
    (∀ j ys nw, j < n → G j ys nw → TurnIn prog w A h₀ L m env elt x y scope cl s v j ys nw (G (j + 1))) ∧ ∀ ys nw, G n ys nw → H' ys nw
open LCg in
theorem outer_two {elt i0 i1 : Expr} {x y : Str} {px py : Pos} {scope : Scope} {cl : List (Str × Addr)} {pos : Pos} {s : Shared} {I C D ax : Addr} {its : Array Value} {o9 : Obj} {H : Nat → List Value → List (Addr × Obj) → Prop} {R : Result → Shared → Prop}
    (hh : A.handled = none) (ho9 : o9.cls = .type "list" ∧ ∃ nt, o9.data = .seq its nt) (hsz : its.size ≤ sizeLine) (haxI : ax ≠ I) (hkind : scope.kind = .function) (hx : scope.names.lookup x = some .local) (hy : scope.names.lookup y = some .local) (hxy : ¬ x = y)
    (hIL : L ≠ I) (hI₀ : h₀.get? I = none) (hCL : C ≠ L) (hC₀ : h₀.get? C = none) (hDL : D ≠ L) (hD₀ : h₀.get? D = none) (hIC : I ≠ C) (hID : I ≠ D) (hCD : C ≠ D)
    (hax : ∀ i ys nw, H i ys nw → (ax, o9) ∈ nw)
    (turn : ∀ i v, its[i]? = some v → OutTurn prog w A h₀ L m env i1 elt x y scope cl s v (H i) (H (i + 1)))
    (fin : ∀ h tk m' ys nw, Fr h₀ L h m → News h₀ L h ((D, lst ys) :: nw) → h.Ns C m' → Apart3 I C D nw → H its.size ys nw → R (.ok .next) { s with heap := h, toks := tk })
    (hf1 : ∀ x, foldedSetIterable i1 (compEnvC scope cl C env) x = pure x)
    (h : Heap) (tk : Nat) (m' : Str → Option Value) (ys : List Value) (nw : List (Addr × Obj)) (hst : h.IsListIter I ax 0 ∧ h.IsList ax its) (F : Fr h₀ L h m) (N : News h₀ L h ((D, lst ys) :: nw)) (hns : h.Ns C m') (ap : Apart3 I C D nw) (g : H 0 ys nw) :
    codeAny (model prog w) A (.compLoop (.ListComp elt [⟨.Name x px, i0, [], 0⟩, ⟨.Name y py, i1, [], 0⟩] scope pos) 0 (.ref I) (.ref D) (compEnvC scope cl C env)) R { s with heap := h, toks := tk } := by
  have W := Walks.list (prog := prog) (w := w) (A := A) hh I ax haxI its
  refine loop_out (fun k s' => ∃ h tk i ys nw m', s' = { s with heap := h, toks := tk } ∧ i ≤ its.size ∧ k = its.size + 1 - i ∧ (h.IsListIter I ax i ∧ h.IsList ax its) ∧ Fr h₀ L h m ∧ News h₀ L h ((D, lst ys) :: nw) ∧ h.Ns C m' ∧ Apart3 I C D nw ∧ H i ys nw) ?_ (its.size + 1)
    ⟨h, tk, 0, ys, nw, m', rfl, Nat.zero_le _, rfl, hst, F, N, hns, ap, g⟩ hf1
  rintro k s' ⟨h, tk, i, ys, nw, m', rfl, hi, rfl, hst, F, N, hns, ap, g⟩
  have nI : ∀ p ∈ (D, lst ys) :: nw, p.1 ≠ I := fun p hp => by
    rcases List.mem_cons.mp hp with rfl | hp
    · exact Ne.symm hID
    · exact (ap p hp).1
  by_cases hlt : i < its.size
  · refine W.item i _ _ _ hlt hst fun v h₂ tk₂ hv hst₂ hk₂ => ?_
    dsimp only
    obtain ⟨n, G, hn, hG, hG0, hIt, hT, hGn⟩ := turn i v hv
    have hns₂ : h₂.Ns C m' := hns.at' fun o e => hk₂ _ o (by simpa using Ne.symm hIC) e
    have N₂ : News h₀ L h₂ ((D, lst ys) :: nw) := news_but N hk₂ nI
    refine wpAny_assign_Name (wpAny_storeName_local (lookup_relabel_local hx) hns₂ (fun h₃ hn₃ hs₃ => ?_) (by simp [compEnvC, relabel, hkind]))
    obtain ⟨oC, heC, hoC⟩ := ns_obj hn₃
    obtain ⟨oI, heI, hcI, hdI⟩ : ∃ oI, h₂.get? I = some oI ∧ oI.cls = .type "list_iterator" ∧ oI.data = .fields #[.ref ax, .int (i + 1 : Nat) 0] := by
      obtain ⟨o, e, r⟩ := hst₂.1; exact ⟨o, e, r⟩
    have heI₃ := hs₃.extBut _ _ hIC heI
    have F₃ : Fr h₀ L h₃ m := (fr_but F hk₂ hIL hI₀).change hs₃ hCL hC₀
    have nC : ∀ p ∈ (D, lst ys) :: nw, p.1 ≠ C := fun p hp => by
      rcases List.mem_cons.mp hp with rfl | hp
      · exact Ne.symm hCD
      · exact (ap p hp).2.1
    have N₃ : News h₀ L h₃ ((I, oI) :: (C, oC) :: (D, lst ys) :: nw) := fun p hp => by
      have old : ∀ q ∈ (D, lst ys) :: nw, h₃.get? q.1 = some q.2 ∧ q.1 ≠ L ∧ h₀.get? q.1 = none := fun q hq => ⟨hs₃.extBut _ _ (nC q hq) (N₂ q hq).1, (N₂ q hq).2⟩
      rcases List.mem_cons.mp hp with rfl | hp
      · exact ⟨heI₃, Ne.symm hIL, hI₀⟩
      · rcases List.mem_cons.mp hp with rfl | hp
        · exact ⟨heC, hCL, hC₀⟩
        · exact old p hp
    refine wpAny_mono (hIt ys nw g I oI C oC D _ h₃ _ _ hoC (by simp) F₃ N₃) (fun xv s₄ hq => ?_) fun _ _ e => e
    obtain ⟨r, h₄, tk₄, t, u, v', rfl, rfl, hr, F₄, N₄⟩ := hq
    refine wpAny_pyIter_range hr (small_up (by omega)) ?_
    have hrs : Builtin.Range.rangeSize 0 (n : Int) 1 = (n : Int) := by unfold Builtin.Range.rangeSize; simp; omega
    rw [hrs]
    generalize hJ : h₄.objs.size = J
    have up : ∀ b o, h₄.get? b = some o → (h₄.push { cls := .type "range_iterator", data := .fields #[rawInt 0, rawInt (n : Int), rawInt 1] }).get? b = some o := fun b o e => Heap.get?_push_of_some _ e
    have hJne : ∀ b o, h₄.get? b = some o → @Ne Nat J b := fun b o e => by rw [← hJ]; exact (Nat.ne_of_lt (Heap.lt_size e)).symm
    have N₄' := fun p hp => N₄ p (List.mem_cons_of_mem _ (List.mem_cons_of_mem _ hp))
    have zI := N₄ (I, oI) (by simp)
    have zC := N₄ (C, oC) (by simp)
    have zD := N₄ (D, lst ys) (by simp)
    have hitJ : IsRangeIter (h₄.push { cls := .type "range_iterator", data := .fields #[rawInt 0, rawInt (n : Int), rawInt 1] }) J 0 (n : Int) 1 := by
      show Heap.get? _ _ = some _
      rw [← hJ]; exact Heap.get?_push_size _ rfl
    have inner := inner_two (A := A) (elt := elt) (t0 := .Name x px) (i0 := i0) (i1 := i1) (py := py) (pos := pos) (s := s) (I := I) (J := J) (C := C) (D := D) (oI := oI) (n := n) (v := v) (G := G) (scope := scope) (cl := cl) (env := env) (m := m) (h₀ := h₀) (L := L)
      (R := fun r s₅ => r = .ok .next ∧ ∃ m, m < its.size + 1 - i ∧ (fun k s' => ∃ h tk i ys nw m', s' = { s with heap := h, toks := tk } ∧ i ≤ its.size ∧ k = its.size + 1 - i ∧ (h.IsListIter I ax i ∧ h.IsList ax its) ∧ Fr h₀ L h _ ∧ News h₀ L h ((D, lst ys) :: nw) ∧ h.Ns C m' ∧ Apart3 I C D nw ∧ H i ys nw) m s₅)
      hh hn hkind hy hxy hIL (by
        have e := F₄.ns.lt; rw [hJ] at e; exact Nat.ne_of_lt e) (by
        rw [← hJ]
        cases e : h₀.get? h₄.objs.size with
        | none => rfl
        | some o => exact absurd (Heap.lt_size (F₄.keep _ o e)) (Nat.lt_irrefl _)) hCL hC₀ hDL hD₀ hIC hID hCD (hJne _ _ zI.1) (hJne _ _ zC.1) (hJne _ _ zD.1) hG hT
      (fun h₅ tk₅ m₅ ys₅ nw₅ F₅ N₅ ns₅ ap₅ g₅ => by
        refine ⟨rfl, its.size + 1 - (i + 1), by omega, h₅, tk₅, i + 1, ys₅, nw₅, m₅, rfl, hlt, rfl, ⟨⟨oI, (N₅ (I, oI) (by simp)).1, hcI, hdI⟩, ?_⟩, F₅, news_sub N₅ (fun p hp => List.mem_cons_of_mem _ hp), ns₅, fun p hp => ⟨(ap₅ p hp).1, (ap₅ p hp).2.2.1, (ap₅ p hp).2.2.2⟩, hGn _ _ g₅⟩
        obtain ⟨hc9, nt, hd9⟩ := ho9
        exact ⟨o9, (N₅ (ax, o9) (List.mem_cons_of_mem _ (List.mem_cons_of_mem _ (hax _ _ _ (hGn _ _ g₅))))).1, hc9, nt, hd9⟩)
      (h₄.push { cls := .type "range_iterator", data := .fields #[rawInt 0, rawInt (n : Int), rawInt 1] }) tk₄ _ ys nw (by simp) hitJ (F₄.push _) (fun p hp => by
        have hp' : p ∈ (I, oI) :: (C, oC) :: (D, lst ys) :: nw := by
          rcases List.mem_cons.mp hp with rfl | hp
          · simp
          · exact List.mem_cons_of_mem _ (List.mem_cons_of_mem _ hp)
        exact ⟨up _ _ (N₄ p hp').1, (N₄ p hp').2⟩) ((hoC.ns zC.1).at' fun o e => up _ o e) (fun p hp => ⟨(ap p hp).1, (hJne _ _ (N₄' p (List.mem_cons_of_mem _ hp)).1).symm, (ap p hp).2.1, (ap p hp).2.2⟩) (hG0 _ _ g)
    rw [Around.mark_none]
    refine start_in inner ?_
    exact wpAny_pyIter_rangeiter hitJ inner
  · obtain rfl : i = its.size := Nat.le_antisymm hi (Nat.not_lt.mp hlt)
    refine W.done _ _ _ hst fun h₂ tk₂ hk₂ => ?_
    exact fin h₂ tk₂ m' ys nw (fr_but F hk₂ hIL hI₀) (news_but N hk₂ nI) (hns.at' fun o e => hk₂ _ o (by simpa using Ne.symm hIC) e) ap g
end
section
variable {prog : Program} {w : World} {A : Around} {E : Value → Shared → Prop} {h₀ : Heap} {L : Addr} {m : Str → Option Value} {env : Env}
theorem off1_of {D : Addr} : ∀ {l : List (Addr × Obj)}, (∀ p ∈ l, @Ne Nat p.1 D) → LCg.Off1 D l
  | [], _ => trivial
  | _ :: _, h => ⟨h _ List.mem_cons_self, off1_of fun p hp => h p (List.mem_cons_of_mem _ hp)⟩
open LCg in
/-- what is asked where the outer list is known -/
def SrcTwo (prog : Program) (w : World) (A : Around) (h₀ : Heap) (L : Addr) (m : Str → Option Value) (env : Env) (i1 elt : Expr) (x y : Str) (scope : Scope) (cl : List (Str × Addr)) (Q : Value → Shared → Prop) (xv : Value) (s₁ : Shared) : Prop :=
  ∃ (ax : Addr) (its : Array Value) (nt : Nat) (news : List (Addr × Obj)) (H : Nat → List Value → List (Addr × Obj) → Prop), xv = .ref ax ∧ A.handled = none ∧ Fr h₀ L s₁.heap m ∧ News h₀ L s₁.heap news ∧ (ax, ({ cls := .type "list", data := .seq its nt } : Obj)) ∈ news ∧ its.size ≤ sizeLine ∧ H 0 [] news ∧
    (∀ i ys nw, H i ys nw → (ax, ({ cls := .type "list", data := .seq its nt } : Obj)) ∈ nw) ∧
    (∀ g tk i v, its[i]? = some v → OutTurn prog w A h₀ L m env i1 elt x y scope cl { s₁ with heap := g, toks := tk } v (H i) (H (i + 1))) ∧
    ∀ D h tk ys nw, H its.size ys nw → Fr h₀ L h m → News h₀ L h ((D, lst ys) :: nw) → Off1 D nw → Q (.ref D) { s₁ with heap := h, toks := tk }
open LCg in
theorem ListComp_Two {elt i0 i1 : Expr} {x y : Str} {px py : Pos} {scope : Scope} {cl : List (Str × Addr)} {pos : Pos} {Q : Value → Shared → Prop} {s : Shared}
    (hclos : closureFor scope env = pure cl) (hcell : ∀ y ∈ scope.names, y.2 ≠ .cell) (hkind : scope.kind = .function)
    (hnames : ∀ y ∈ scope.names, y.2 = .local → scope.names.lookup y.1 = some .local) (hx : scope.names.lookup x = some .local) (hy : scope.names.lookup y = some .local) (hxy : ¬ x = y)
    (h : wpAny (model prog w) A (eval i0 env) (SrcTwo prog w A h₀ L m env i1 elt x y scope cl Q) E s)
    (hs : ∀ x, foldedSetIterable i0 env x = pure x) (hf1 : ∀ C x, foldedSetIterable i1 (compEnvC scope cl C env) x = pure x) :
    wpAny (model prog w) A (eval (.ListComp elt [⟨.Name x px, i0, [], 0⟩, ⟨.Name y py, i1, [], 0⟩] scope pos) env) Q E s := by
  rw [eval_ListComp]
  refine wpAny_comprehension_free (use := none) rfl hs hclos hkind hnames (wpAny_mono h (fun xv s₁ h₁ => ?_) fun _ _ e => e)
  obtain ⟨ax, its, nt, news, H, rfl, hh, F, N, hax, hsz, h0, hH, turn, fin⟩ := h₁
  have hget := (N _ hax).1
  have hlt : ax < s₁.heap.objs.size := Heap.lt_size hget
  have hl : s₁.heap.IsList ax its := ⟨_, hget, rfl, _, rfl⟩
  refine wpAny_pyIter_list hl ?_
  have up0 : ∀ b o, s₁.heap.get? b = some o → (s₁.heap.push { cls := .type "list_iterator", data := .fields #[.ref ax, .int 0 0] }).get? b = some o := fun b o e => Heap.get?_push_of_some _ e
  generalize hI : s₁.heap.objs.size = I at *
  generalize hH1 : s₁.heap.push { cls := .type "list_iterator", data := .fields #[.ref ax, .int 0 0] } = H1 at *
  have hs1 : H1.objs.size = I + 1 := by rw [← hH1, Heap.size_push, hI]
  have hst1 : H1.IsListIter I ax 0 ∧ H1.IsList ax its := by
    refine ⟨⟨{ cls := .type "list_iterator", data := .fields #[.ref ax, .int 0 0] }, ?_, rfl, rfl⟩, hl.at fun o e => up0 _ _ e⟩
    rw [← hH1, ← hI]; exact Heap.get?_push_size _ rfl
  have F1 : Fr h₀ L H1 m := F.keeps up0
  have N1 : News h₀ L H1 news := N.grown up0
  refine wpAny_newObj_type (wpAny_newFunctionEnv hcell (by intro y hy; simp at hy) (fun h₁ hns₁ hsb₁ => ?_) hkind)
  dsimp only at hns₁ hsb₁ ⊢
  generalize hH2 : H1.push { cls := .type "list", dict := none, data := .seq ([] : List Value).toArray } = H2 at hns₁ hsb₁ ⊢
  have hC : H2.objs.size = H1.objs.size + 1 := by rw [← hH2, Heap.size_push]
  have hne : ∀ x, x < H1.objs.size → x ≠ H2.objs.size ∧ x ≠ H1.objs.size := fun x hx => ⟨by rw [hC]; exact Nat.ne_of_lt (Nat.lt_succ_of_lt hx), Nat.ne_of_lt hx⟩
  have hCD : H2.objs.size ≠ H1.objs.size := by rw [hC]; exact Nat.succ_ne_self _
  have up : ∀ x o, H1.get? x = some o → h₁.get? x = some o := fun x o e => hsb₁.extBut x o (hne x (Heap.lt_size e)).1 (Heap.get?_push_of_some _ (hH2 ▸ Heap.get?_push_of_some _ e))
  have hD : h₁.get? H1.objs.size = some (lst []) := hsb₁.extBut _ _ (Ne.symm hCD) (Heap.get?_push_of_some _ (hH2 ▸ Heap.get?_push_size _ rfl))
  have none₀ : ∀ x, I ≤ x → h₀.get? x = none := fun x hx => by
    cases e : h₀.get? x with
    | none => rfl
    | some o => exact absurd (Heap.lt_size (F.keep x o e)) (by rw [hI]; exact Nat.not_lt.mpr hx)
  have hD₀ := none₀ H1.objs.size (by rw [hs1]; exact Nat.le_succ _)
  have hC₀ := none₀ H2.objs.size (by rw [hC, hs1]; exact Nat.le_trans (Nat.le_succ _) (Nat.le_succ _))
  have hL := hne L F1.ns.lt
  have hIlt : I < H1.objs.size := by rw [hs1]; exact Nat.lt_succ_self _
  have nw := fun p (hp : p ∈ news) => hne p.1 (Heap.lt_size (N1 p hp).1)
  have offI : ∀ p ∈ news, @Ne Nat p.1 I := fun p hp => Nat.ne_of_lt (by rw [← hI]; exact Heap.lt_size (N p hp).1)
  have loop := outer_two (A := A) (elt := elt) (i0 := i0) (i1 := i1) (px := px) (py := py) (pos := pos) (s := s₁) (I := I) (C := H2.objs.size) (D := H1.objs.size) (ax := ax) (its := its) (o9 := { cls := .type "list", data := .seq its nt }) (H := H) (cl := cl) (env := env)
    (R := compPost (model prog w) A E none Q (.ref H1.objs.size) H2.objs.size)
    hh ⟨rfl, _, rfl⟩ hsz (Nat.ne_of_lt hlt) hkind hx hy hxy (by rw [← hI]; exact Nat.ne_of_lt F.ns.lt) (none₀ I (Nat.le_refl _)) (Ne.symm hL.1) hC₀ (Ne.symm hL.2) hD₀ (hne I hIlt).1 (hne I hIlt).2 hCD hH (fun i v hv => turn s₁.heap s₁.toks i v hv)
    (fun h tk m' ys nw F' N' hn ap g => by
      refine ⟨m', hn, fun h'' hs'' => fin _ h'' tk ys nw g (F'.change hs'' (Ne.symm hL.1) hC₀) (fun p hp => ?_) ?_⟩
      · refine ⟨hs''.extBut _ _ ?_ (N' p hp).1, (N' p hp).2⟩
        rcases List.mem_cons.mp hp with rfl | hp
        · exact Ne.symm hCD
        · exact (ap p hp).2.1
      · exact off1_of fun p hp => (ap p hp).2.2) (hf1 H2.objs.size)
    h₁ (s₁.toks + ([] : List (Str × Value)).length) _ [] news ⟨hst1.1.at fun o e => up _ o e, hst1.2.at fun o e => up _ o e⟩ (F1.keeps up) (fun p hp => by
      rcases List.mem_cons.mp hp with rfl | hp
      · exact ⟨hD, Ne.symm hL.2, hD₀⟩
      · exact ⟨up _ _ (N1 p hp).1, (N1 p hp).2⟩) hns₁ (fun p hp => ⟨offI p hp, (nw p hp).1, (nw p hp).2⟩) h0
  exact codeAny_compStart_list loop (wpAny_pyIter_listiter (hst1.1.at fun o e => up _ o e) loop)
end
theorem code_imp {R R' : Result → Shared → Prop} (prog : Program) (w : World) (H : ∀ (M : Model) (A : Around) (cd : Code) (s : Shared), codeAny M A cd R s → codeAny M A cd R' s) (r : Result) (s : Shared) (h : R r s) : R' r s := by
  have A0 : Around := ⟨none, 0, none, none, 0⟩
  let Γ : Ctx := ⟨.call .none ⟨[], []⟩, none, none, [], none⟩
  cases r with
  | ok f =>
    let M0 : Model := { den := fun _ => pure (.done f), prog := prog, w := w }
    have h1 : codeAny M0 ⟨none, 0, none, none, 0⟩ (.call .none ⟨[], []⟩) R s := codeAny_of_tree (wpAny_pure h)
    have h2 := H _ _ _ _ h1 Γ default rfl ⟨rfl, Nat.le_refl _, (fun _ e => by cases e), (fun _ e => by cases e), Nat.le_refl _⟩
    rw [wpCode_iff_wp] at h2
    exact h2
  | error e =>
    let M0 : Model := { den := fun _ => throw e, prog := prog, w := w }
    have h1 : codeAny M0 ⟨none, 0, none, none, 0⟩ (.call .none ⟨[], []⟩) R s := codeAny_of_tree (wpAny_throw h)
    have h2 := H _ _ _ _ h1 Γ default rfl ⟨rfl, Nat.le_refl _, (fun _ e => by cases e), (fun _ e => by cases e), Nat.le_refl _⟩
    rw [wpCode_iff_wp] at h2
    exact h2
theorem enter_callN {M : Model} {A : Around} {s : Shared} {f : Value} {pos : List Value} {kw : List (Str × Value)} {c : ClaimW} {cl : Str → Option Addr} {mean : ExcName → Option Value} {args : List WData} {s₁ : Shared}
    (h : codeN M A (.call f ⟨pos, kw⟩) (GoodWG c cl mean args s₁) s) : wpN M A (PySem.call f pos kw) (fun v s' => GoodWG c cl mean args s₁ (.ok (.ret v)) s') (fun e s' => GoodWG c cl mean args s₁ (.error e) s') s :=
  wpN_call (codeN_mono h fun res s' g => by rcases g.1 with ⟨v, _, _, rfl, _⟩ | ⟨e, _, _, rfl, _⟩ <;> exact g)
theorem kn_postN {M : Model} {A : Around} {cd : Code} {s s₁ : Shared} {cw : ClaimW} {cl : Str → Option Addr} {mean : ExcName → Option Value} {args : List WData} {tabs : List (Addr × Addr)} (hT : TabsAt tabs s₁.heap) (hr : ∀ a x, cw.raises a x = false)
    (h : codeN M A cd (fun r s' => GoodW cw cl mean args { s₁ with heap := ghostOf s₁.heap tabs } r s' ∧ GrownAll tabs s'.heap) s) : codeN M A cd (GoodWG cw cl mean args s₁) s :=
  codeN_mono h (code_imp M.prog M.w fun M A cd s => kn_post hT hr)
theorem call_cellsM {prog : Program} {w : World} {A : Around} {R : Result → Shared → Prop} {s : Shared} {name : Str} {params : Arguments} {body : List Stmt} {scope : Scope}
    {pm cd doc : Value} {a : Addr} {o : Obj} {args : List Value} {binds : List (Str × Value)}
    (hroom : A.depth < recursionLimit) (ho : s.heap.get? a = some o) (hdata : o.data = .func (Calls.docDef name params body scope pm cd doc)) (hlim : s.heap.NoLimit) (hcd : s.heap.CodeRec cd name)
    (hbind : bindArgs (Calls.docDef name params body scope pm cd doc) ⟨args, []⟩ = pure binds)
    (hkind : ∀ x ∈ binds, scope.names.lookup x.1 = some .local ∨ (scope.names.lookup x.1 = some .cell ∧ ((cellsFrom (s.heap.objs.size + 1) scope.names []).lookup x.1).isSome = true))
    (hnd : ((cellsFrom 0 scope.names []).map (·.1)).Nodup)
    (h : ∀ h₁ tk cells, Fr s.heap s.heap.objs.size h₁ (bindL (envOfC name scope s.heap.objs.size a cd).kindOf binds fun _ => none) → News s.heap s.heap.objs.size h₁ cells →
      CellsAre (bindC (envOfC name scope s.heap.objs.size a cd).kindOf binds fun _ => none) (cellsFrom (s.heap.objs.size + 1) scope.names []) cells →
      wpN (model prog w) (A.deeper (envOfC name scope s.heap.objs.size a cd)) (execs body (envOfC name scope s.heap.objs.size a cd))
        (fun f s' => R (.ok (.ret (match f with | .ret v => v | _ => .none))) s')
        (fun e s' => wpAny (model prog w) (A.deeper (envOfC name scope s.heap.objs.size a cd)) (leaving (envOfC name scope s.heap.objs.size a cd) e)
          (fun _ s'' => R (.error e) s'') (fun e' s'' => R (.error e') s'') s')
        { s with heap := h₁, toks := tk })
    (hco : scope.isCoroutine = false := by rfl) (hgen : scope.isGenerator = false := by rfl) (hk : scope.kind = .function := by rfl) :
    codeN (model prog w) A (.call (.ref a) ⟨args, []⟩) R s := by
  refine codeN_call_function hroom ho hdata hco hgen rfl hcd (wpAny_of_eq hbind ?_)
  refine wpAny_newFunctionEnv_cells hk hkind fun env' he s' x => ?_
  subst he
  refine ⟨hlim.keeps x.toInCall.keep, codeN_func ?_⟩
  obtain ⟨h₁, tk, rfl, _⟩ := x.done
  obtain ⟨cells, NC, Y⟩ := Cl.news (h₀ := s.heap) (Nat.le_refl _) fun n c hm => ⟨x.cell n c (lookup_of_mem_nodup (cellsFrom_names scope.names 0 (s.heap.objs.size + 1) [] [] rfl ▸ hnd) hm), x.above n c hm⟩
  exact h h₁ tk cells ⟨x.toInCall.ns, x.toInCall.keep, x.toInCall.fresh⟩ NC Y
theorem ints_seven {C : Prop} {us : List Value} {ks : List Int} (h : IntsAre us ks) (hl : ks.length = 7) (k : ∀ k0 k1 k2 k3 k4 k5 k6 t0 t1 t2 t3 t4 t5 t6, us = [.int k0 t0, .int k1 t1, .int k2 t2, .int k3 t3, .int k4 t4, .int k5 t5, .int k6 t6] → ks = [k0, k1, k2, k3, k4, k5, k6] → C) : C := by
  obtain ⟨k0, k1, k2, k3, k4, k5, k6, rfl⟩ := seven hl
  cases h with | cons _ t0 h => cases h with | cons _ t1 h => cases h with | cons _ t2 h => cases h with | cons _ t3 h => cases h with | cons _ t4 h => cases h with | cons _ t5 h => cases h with | cons _ t6 h => cases h with | nil =>
  exact k k0 k1 k2 k3 k4 k5 k6 t0 t1 t2 t3 t4 t5 t6 rfl rfl
theorem cellsB_seven {n : Nat} {k0 k1 k2 k3 k4 k5 k6 : Int} (h : CellsB n [k0, k1, k2, k3, k4, k5, k6]) : ∀ c ∈ [k0, k1, k2, k3, k4, k5, k6], 0 ≤ c ∧ c ≤ 7 + 1000000 * (n : Int) := h
theorem fr_script {h₀ h : Heap} {L sc : Addr} {its : Array Value} {m : Str → Option Value} (_hl : h₀.IsList sc its) (F : Fr h₀ L h m) (e : m = fun z => if z = Str.ofString "script" then some (.ref sc) else none) :
    Fr h₀ L h (fun z => if z = Str.ofString "script" then some (.ref sc) else none) := e ▸ F
noncomputable def mkOf (k : Int) : Nat := if k.fmod 3 = 0 then 34 else if k.fmod 3 = 1 then 60 else 62
theorem mkOf_isM (k : Int) : isM (mkOf k) := by
  unfold mkOf
  split
  · exact .inl rfl
  · split
    · exact .inr (.inl rfl)
    · exact .inr (.inr rfl)
theorem mark_item {w : World} {A : Around} {E : Value → Shared → Prop} {s : Shared} {value slice : Expr} {t : Tok} {Q : Value → Shared → Prop} {k : Int} {u : Tok}
    (h : Q (.str ⟨#[mkOf k]⟩ s.toks) { s with toks := s.toks + 1 })
    (hs : subscripted slice false (.str (Str.ofString "\"<>") t) (.int (k.fmod 3) u) = operate [.str (Str.ofString "\"<>") t, .int (k.fmod 3) u] (getItem (.str (Str.ofString "\"<>") t) (.int (k.fmod 3) u)) := by with_unfolding_all rfl)
    (ht : ∀ r, letTemporaryGo value (.str (Str.ofString "\"<>") t) r = pure () := by intro _; with_unfolding_all rfl) :
    wpAny (model PG w) A (subscriptTail value slice (.str (Str.ofString "\"<>") t) (.int (k.fmod 3) u)) Q E s := by
  have h0 := Int.fmod_nonneg_of_pos k (b := 3) (by decide)
  have h1 := Int.fmod_lt_of_pos k (b := 3) (by decide)
  have hl : (Str.ofString "\"<>").length = 3 := by decide +kernel
  refine item_rule h0 (by rw [hl]; exact h1) (by rw [hl]; decide) ?_ hs ht
  have e : chA (Str.ofString "\"<>") (k.fmod 3) = mkOf k := by
    unfold mkOf
    have hc : k.fmod 3 = 0 ∨ k.fmod 3 = 1 ∨ k.fmod 3 = 2 := by omega
    rcases hc with e | e | e <;> rw [e] <;> decide +kernel
  rw [e]; exact h
theorem join7 {w : World} {A : Around} {E : Value → Shared → Prop} {s : Shared} {h₀ : Heap} {L D : Addr} {news : List (Addr × Obj)} {t t0 t1 t2 t3 t4 t5 t6 : Tok} {c0 c1 c2 c3 c4 c5 c6 : Nat} {Q : Value → Shared → Prop} (N : News h₀ L s.heap news)
    (hm : (D, LCg.lst [Value.str ⟨#[c0]⟩ t0, .str ⟨#[c1]⟩ t1, .str ⟨#[c2]⟩ t2, .str ⟨#[c3]⟩ t3, .str ⟨#[c4]⟩ t4, .str ⟨#[c5]⟩ t5, .str ⟨#[c6]⟩ t6]) ∈ news)
    (h : ∀ t' k, Q (.str ⟨#[c0, c1, c2, c3, c4, c5, c6]⟩ t') { s with toks := k }) : wpAny (model PG w) A (call (.builtin "str.join") [.str (Str.ofString "") t, .ref D]) Q E s := by
  have hl : s.heap.IsList D (#[Value.str ⟨#[c0]⟩ t0, .str ⟨#[c1]⟩ t1, .str ⟨#[c2]⟩ t2, .str ⟨#[c3]⟩ t3, .str ⟨#[c4]⟩ t4, .str ⟨#[c5]⟩ t5, .str ⟨#[c6]⟩ t6] : Array Value) := ⟨_, (N _ hm).1, rfl, _, rfl⟩
  refine join_listC (ys := [⟨#[c0]⟩, ⟨#[c1]⟩, ⟨#[c2]⟩, ⟨#[c3]⟩, ⟨#[c4]⟩, ⟨#[c5]⟩, ⟨#[c6]⟩]) hl (.cons _ _ (.cons _ _ (.cons _ _ (.cons _ _ (.cons _ _ (.cons _ _ (.cons _ _ .nil))))))) (by decide +kernel) (by simp [Str.length]) fun t' k => ?_
  have e : Txt.join (Str.ofString "") [⟨#[c0]⟩, ⟨#[c1]⟩, ⟨#[c2]⟩, ⟨#[c3]⟩, ⟨#[c4]⟩, ⟨#[c5]⟩, ⟨#[c6]⟩] = (⟨#[c0, c1, c2, c3, c4, c5, c6]⟩ : Str) := by
    have e0 : Str.ofString "" = ⟨#[]⟩ := by decide +kernel
    rw [e0]; rfl
  rw [e]; exact h t' k
local macro_rules | `(tactic| walk_at "eval ListComp") => `(tactic| (k_here; k_dflt (refine LCg.ListComp_U (F₀ := by k_asm) (by rfl) (by decide) (by rfl) (by decide) (by rfl) ?_)))
local macro_rules | `(tactic| walk_at "exec Assign cons ListComp") => `(tactic| (k_here; k_dflt (refine LCg.Assign_ListComp_U (F₀ := by k_asm) (by rfl) (by with_unfolding_all rfl) (by with_unfolding_all rfl) (by decide) (by rfl) (by decide) (by rfl) (by rfl) (by rfl) ?_)))
local macro_rules | `(tactic| walk_at "CompSrc") => `(tactic| (k_here; (with_reducible show LCg.CompSrc _ _ _ _ _ _ _ _ _ _ _ _ (Value.ref _) _); (refine' LCg.CompSrc.ledger ?cs1 ?cs2 ?cs3 ?cs4 ?cs5 ?_; (case cs1 => rfl); (case cs2 => k_asm); (case cs3 => k_asm); (case cs4 => k_mem); (case cs5 => exact Nat.le_of_ble_eq_true rfl)); intro g'; lcg_lit))
local macro_rules | `(tactic| walk_at "subscriptTail") => `(tactic| (k_here; (with_reducible show wpAny _ _ (subscriptTail _ _ (Value.str (Str.ofString "\"<>") _) (Value.int (Int.fmod _ 3) _)) _ _ _); refine mark_item ?_))
local macro_rules | `(tactic| walk_at "CompEnd") => `(tactic| ((with_reducible rename Fr _ _ _ _ => F9'); (with_reducible rename News _ _ _ _ => N9'); (with_reducible rename LCg.Off3 _ _ _ _ => o9'); refine' LCg.CompEnd.intro F9' N9' _ (fun _ h => h) o9' ?cS ?_; (case cS => first | exact True.intro | exact Or.inr ⟨_, by k_mem, rfl, _, rfl⟩ | exact Or.inl (by assumption))))
local macro_rules | `(tactic| walk_at "call builtin:str.join") => `(tactic| (k_here; (show wpAny _ _ (call (Value.builtin _) [Value.str _ _, Value.ref _]) _ _ _); (with_reducible rename News _ _ _ _ => N9'); (refine' join7 N9' ?cm ?_; (case cm => k_mem)); intro t9' _))
local macro_rules | `(tactic| walk_at "callWith") => `(tactic| ((with_reducible show wpAny _ _ (callWith _ (Value.builtin _) (List.cons _ _) (backTo _ (starEach (List.cons _ _) _)) []) _ _ _); (with_reducible refine callWith_method1 ?_ ?mhe ?mhp); (case mhe => rfl); (case mhp => rfl)))
def lawBody : List Stmt := match PySem.Challenge.pw_zn0021_01.main.body.getLast? with
  | some (.FunctionDef (body := b) ..) => b
  | _ => []
def lawScope : List Scope := match PySem.Challenge.pw_zn0021_01.main.body.getLast? with
  | some (.FunctionDef (scope := b) ..) => [b]
  | _ => []
local macro_rules | `(tactic| walk_at "call ref") => `(tactic| (k_here; (with_reducible show wpAny _ _ (call (Value.ref 116) [Value.bytes _ _, Value.str _ _]) _ _ _); k_dflt (refine' dress_C _ _ _ _ _ _ _ _ _ _ _ _ _ _ _ _ _ _ _ _ _ _ ?cB ?cF ?cX ?cN ?cT ?cK ?cP ?cD ?cU ?_; ((((case cB => k_asm); (case cF => k_asm); (case cX => k_asm); (case cN => k_asm); (case cT => k_asm); (case cK => first | exact rfl | assumption); (case cD => ktr_room); (case cU => ktr_units)))); (case cP => first | assumption | omega); intro t9 h9 tk9 F9 N9; (try dsimp only))))
theorem strsAre_snoc {ys : List Value} {l : List Str} (h : StrsAre ys l) (x : Str) (t : Tok) : StrsAre (ys ++ [.str x t]) (l ++ [x]) := by
  induction h with
  | nil => exact .cons x t .nil
  | cons y u _ ih => exact .cons y u ih
theorem filt_strs {No : Nat → Prop} {n : Nat} {ys : List Value} (h : Filt (fun _ y => ∃ x t, y = Value.str x t ∧ x.length ≤ 1) No n ys) : ∃ l, StrsAre ys l ∧ (l.map (·.length)).sum ≤ n ∧ l.length ≤ n := by
  induction h with
  | zero => exact ⟨[], .nil, by simp, by simp⟩
  | yes _ hy ih =>
    obtain ⟨x, t, rfl, hx⟩ := hy
    obtain ⟨l, h1, h2, h3⟩ := ih
    refine ⟨l ++ [x], strsAre_snoc h1 x t, ?_, ?_⟩
    · simp only [List.map_append, List.map_cons, List.map_nil, List.sum_append, List.sum_cons, List.sum_nil]; omega
    · rw [List.length_append, List.length_singleton]; omega
  | no _ _ ih =>
    obtain ⟨l, h1, h2, h3⟩ := ih
    exact ⟨l, h1, by omega, by omega⟩
theorem join_filt {w : World} {A : Around} {E : Value → Shared → Prop} {s : Shared} {h₀ : Heap} {L D : Addr} {news : List (Addr × Obj)} {t : Tok} {No : Nat → Prop} {n : Nat} {ys : List Value} {Q : Value → Shared → Prop} (N : News h₀ L s.heap news)
    (hf : Filt (fun _ y => ∃ x t, y = Value.str x t ∧ x.length ≤ 1) No n ys) (hn : n ≤ 3) (hm : (D, LCg.lst ys) ∈ news) (h : ∀ fs t' k, Q (.str fs t') { s with toks := k }) : wpAny (model PG w) A (call (.builtin "str.join") [.str (Str.ofString "") t, .ref D]) Q E s := by
  obtain ⟨l, h1, h2, h3⟩ := filt_strs hf
  have hl : s.heap.IsList D ys.toArray := ⟨_, (N _ hm).1, rfl, _, rfl⟩
  refine join_listC (ys := l) hl (by simpa using h1) (by decide +kernel) ?_ (fun t' k => h _ t' k)
  have : l.length * 64 ≤ 3 * 64 := Nat.mul_le_mul_right _ (by omega)
  omega
theorem law_folds {w : World} {mean : ExcName → Option Value} {mg mb : Str → Option Value} {st : Stmt} (hst : lawBody[3]? = some st) {sc : Scope} (hsc : lawScope[0]? = some sc) {L fa : Addr} {h₀ : Heap} {m : Str → Option Value} {s : Shared}
    {Q : Flow → Shared → Prop} {E : Value → Shared → Prop} {S : Int} {tS : Tok} {oT oF : Obj} (rest : List (Addr × Obj)) (F : Fr h₀ L s.heap m) (X : (hd.heap_1 w.params).In h₀) (N : News h₀ L s.heap ((L + 2, oF) :: (L + 1, oT) :: rest)) (T : Top topProg LZ mean mg mb h₀)
    (dT : oT.data = .cell (some (.int S tS))) (vF : ∃ v, oF.data = .cell v) (_hS : 0 ≤ S ∧ S ≤ 1000000000) (hne : ∀ p ∈ (L + 1, oT) :: rest, p.1 ≠ L + 2)
    (hret : ∀ fs t o' h' tk', o'.data = .cell (some (.str fs t)) → Fr h₀ L h' m → News h₀ L h' ((L + 2, o') :: (L + 1, oT) :: rest) → Q .next { s with heap := h', toks := tk' }) :
    wpAny (model PG w) (callerA.deeper (envOfC "law" sc L fa (.ref 141))) (exec st (envOfC "law" sc L fa (.ref 141))) Q E s := by
  obtain rfl : st = _ := Option.some.inj (hst.symm.trans (by with_unfolding_all rfl))
  obtain rfl : sc = _ := Option.some.inj (hsc.symm.trans (by with_unfolding_all rfl))
  clear hst hsc
  iterate 6 (first | walk1 | (dsimp only; walk1))
  refine' ListComp_PT (m := m) (h₀ := h₀) (L := L) (by with_unfolding_all rfl) (by decide) (by rfl) (by decide) (by rfl) (by rfl) (by decide) ?_ ?hs
  (case hs => intro _; rfl)
  repeat (first | walk1 | (dsimp only; walk1))
  (with_reducible rename Fr _ _ _ _ => F9)
  (with_reducible rename News _ _ _ _ => N9)
  refine' SrcPT.of (fun _ y => ∃ x t, y = Value.str x t ∧ x.length ≤ 1) (fun _ => True) F9 N9 ?cm (Or.inr rfl) (by rfl) ?csz (fun g tk i v hv => ?_) (fun D h tk ys hf F N o1 => ?_)
  (case cm => k_mem)
  (case csz => exact Nat.le_of_ble_eq_true rfl)
  · clear F9 N9
    rcases at3 hv with ⟨rfl, rfl⟩ | ⟨rfl, rfl⟩ | ⟨rfl, rfl⟩
    all_goals (refine' pair_of ?cm2 ?_; (case cm2 => k_mem); intro I' oI' C' oC' D' ys' m' h' tk' E' hC' hx' hy' F' N' off' ne')
    all_goals ((repeat' (first | ((first | ((with_reducible show LCg.CompSrc _ _ _ _ _ _ _ _ _ _ _ _ _ _); walk_at "CompSrc"; walk_say "LC src") | ((with_reducible show LCg.CompEnd _ _ _ _ _ _ _ _ _ _ _ _ _ _); walk_at "CompEnd"; walk_say "LC end") | ((with_reducible show LCg.FinE _ _ _ _ _ _ _); walk_at "FinE"; walk_say "LC fin") | ((with_reducible show LCg.FinA _ _ _ _ _ _ _ _); walk_at "FinA"; walk_say "LC finA"))) | (k_unfold; (try dsimp only)) | (k_end; wrow_close) | (dsimp only; (fail_if_success (with_reducible show wpAny _ _ (pyIter _) _ _ _)); (fail_if_success (with_reducible show wpAny _ _ (call (Value.ref _) _) _ _ _)); walk1) | ((fail_if_success (with_reducible show wpAny _ _ (pyIter _) _ _ _)); (fail_if_success (with_reducible show wpAny _ _ (call (Value.ref _) _) _ _ _)); walk1))))
    all_goals trivial
  · clear F9 N9
    obtain ⟨v0, vF⟩ := vF
    iterate 1 (first | walk1 | (dsimp only; walk1))
    show wpAny _ _ (call (Value.builtin _) [Value.str _ _, Value.ref _]) _ _ _
    refine' join_filt N hf (Nat.le_refl 3) ?cm3 ?_
    (case cm3 => k_mem)
    intro fs t9 k9
    dsimp only
    have N9 := news_sub (own := (L + 2, oF) :: (L + 1, oT) :: rest) N fun p hp => List.mem_cons_of_mem _ (List.mem_cons_of_mem _ (List.mem_cons_of_mem _ (List.mem_cons_of_mem _ (List.mem_cons_of_mem _ hp))))
    clear N
    walk1
    exact hret fs t9 _ _ _ (by assumption) (by k_asm) (by k_asm)
theorem law_cut {w : World} {mean : ExcName → Option Value} {mg mb : Str → Option Value} {st : Stmt} (hst : lawBody[4]? = some st) {sc : Scope} (hsc : lawScope[0]? = some sc) {L fa : Addr} {h₀ : Heap} {m : Str → Option Value} {s : Shared}
    {Q : Flow → Shared → Prop} {E : Value → Shared → Prop} {S : Int} {tS : Tok} {oT : Obj} (rest : List (Addr × Obj)) (F : Fr h₀ L s.heap m) (X : (hd.heap_1 w.params).In h₀) (N : News h₀ L s.heap ((L + 1, oT) :: rest)) (T : Top topProg LZ mean mg mb h₀)
    (dT : oT.data = .cell (some (.int S tS))) (hS : 0 ≤ S ∧ S ≤ 1000000000)
    (hret : ∀ c t h' tk', 1 ≤ c ∧ c ≤ 6 → Fr h₀ L h' (fun y => if y = "cut" then some (.int c t) else m y) → News h₀ L h' ((L + 1, oT) :: rest) → Q .next { s with heap := h', toks := tk' }) :
    wpAny (model PG w) (callerA.deeper (envOfC "law" sc L fa (.ref 141))) (exec st (envOfC "law" sc L fa (.ref 141))) Q E s := by
  obtain rfl : st = _ := Option.some.inj (hst.symm.trans (by with_unfolding_all rfl))
  obtain rfl : sc = _ := Option.some.inj (hsc.symm.trans (by with_unfolding_all rfl))
  clear hst hsc
  repeat (first | walk1 | (dsimp only; walk1))
  refine hret _ _ _ _ ?_ (by k_asm) (by k_asm)
  have h1 := Int.fmod_nonneg_of_pos (S.fdiv 8) (b := 6) (by decide)
  have h2 := Int.fmod_lt_of_pos (S.fdiv 8) (b := 6) (by decide)
  omega
theorem cut_lists (c0 c1 c2 c3 c4 c5 c6 : Nat) {c : Int} (hc : 1 ≤ c ∧ c ≤ 6) : (Txt.slice ⟨#[c0, c1, c2, c3, c4, c5, c6]⟩ none (some c)).cps.toList = [c0, c1, c2, c3, c4, c5, c6].take c.toNat ∧ (Txt.slice ⟨#[c0, c1, c2, c3, c4, c5, c6]⟩ (some c) none).cps.toList = [c0, c1, c2, c3, c4, c5, c6].drop c.toNat := by
  have h : c = 1 ∨ c = 2 ∨ c = 3 ∨ c = 4 ∨ c = 5 ∨ c = 6 := by omega
  have t1 : Builtin.Str.strSliceIndices none (some 1) 1 7 = [0] ∧ Builtin.Str.strSliceIndices none (some 2) 1 7 = [0, 1] ∧ Builtin.Str.strSliceIndices none (some 3) 1 7 = [0, 1, 2] ∧ Builtin.Str.strSliceIndices none (some 4) 1 7 = [0, 1, 2, 3] ∧ Builtin.Str.strSliceIndices none (some 5) 1 7 = [0, 1, 2, 3, 4] ∧ Builtin.Str.strSliceIndices none (some 6) 1 7 = [0, 1, 2, 3, 4, 5] := by decide +kernel
  have t2 : Builtin.Str.strSliceIndices (some 1) none 1 7 = [1, 2, 3, 4, 5, 6] ∧ Builtin.Str.strSliceIndices (some 2) none 1 7 = [2, 3, 4, 5, 6] ∧ Builtin.Str.strSliceIndices (some 3) none 1 7 = [3, 4, 5, 6] ∧ Builtin.Str.strSliceIndices (some 4) none 1 7 = [4, 5, 6] ∧ Builtin.Str.strSliceIndices (some 5) none 1 7 = [5, 6] ∧ Builtin.Str.strSliceIndices (some 6) none 1 7 = [6] := by decide +kernel
  have key : ∀ l u ks, Builtin.Str.strSliceIndices l u 1 7 = ks → ks.length ≠ 7 → (Txt.slice ⟨#[c0, c1, c2, c3, c4, c5, c6]⟩ l u).cps.toList = ks.filterMap (#[c0, c1, c2, c3, c4, c5, c6][·]?) := fun l u ks e hn => by
    unfold Txt.slice
    have e2 : (⟨#[c0, c1, c2, c3, c4, c5, c6]⟩ : Str).length = 7 := rfl
    rw [e2, e]
    have e3 : ((1 : Int) == 1 && ks.length == 7) = false := by simp [hn]
    rw [e3]; rfl
  obtain ⟨a1, a2, a3, a4, a5, a6⟩ := t1
  obtain ⟨b1, b2, b3, b4, b5, b6⟩ := t2
  rcases h with rfl | rfl | rfl | rfl | rfl | rfl
  · exact ⟨(key _ _ _ a1 (by decide)).trans rfl, (key _ _ _ b1 (by decide)).trans rfl⟩
  · exact ⟨(key _ _ _ a2 (by decide)).trans rfl, (key _ _ _ b2 (by decide)).trans rfl⟩
  · exact ⟨(key _ _ _ a3 (by decide)).trans rfl, (key _ _ _ b3 (by decide)).trans rfl⟩
  · exact ⟨(key _ _ _ a4 (by decide)).trans rfl, (key _ _ _ b4 (by decide)).trans rfl⟩
  · exact ⟨(key _ _ _ a5 (by decide)).trans rfl, (key _ _ _ b5 (by decide)).trans rfl⟩
  · exact ⟨(key _ _ _ a6 (by decide)).trans rfl, (key _ _ _ b6 (by decide)).trans rfl⟩
theorem cut_two (c0 c1 c2 c3 c4 c5 c6 : Nat) {c : Int} (hc : 1 ≤ c ∧ c ≤ 6) (hM : ∀ x ∈ [c0, c1, c2, c3, c4, c5, c6], isM x) :
    (Txt.slice ⟨#[c0, c1, c2, c3, c4, c5, c6]⟩ none (some c)).length + (Txt.slice ⟨#[c0, c1, c2, c3, c4, c5, c6]⟩ (some c) none).length = 7 ∧ 0 < (Txt.slice ⟨#[c0, c1, c2, c3, c4, c5, c6]⟩ none (some c)).length ∧ 0 < (Txt.slice ⟨#[c0, c1, c2, c3, c4, c5, c6]⟩ (some c) none).length ∧
    (∀ x ∈ (Txt.slice ⟨#[c0, c1, c2, c3, c4, c5, c6]⟩ none (some c)).cps.toList, isM x) ∧ ∀ x ∈ (Txt.slice ⟨#[c0, c1, c2, c3, c4, c5, c6]⟩ (some c) none).cps.toList, isM x := by
  obtain ⟨h1, h2⟩ := cut_lists c0 c1 c2 c3 c4 c5 c6 hc
  have l1 : (Txt.slice ⟨#[c0, c1, c2, c3, c4, c5, c6]⟩ none (some c)).length = c.toNat := by
    show Array.size _ = _
    rw [← Array.length_toList, h1, List.length_take]; simp only [List.length_cons, List.length_nil]; omega
  have l2 : (Txt.slice ⟨#[c0, c1, c2, c3, c4, c5, c6]⟩ (some c) none).length = 7 - c.toNat := by
    show Array.size _ = _
    rw [← Array.length_toList, h2, List.length_drop]; simp only [List.length_cons, List.length_nil]
  rw [l1, l2, h1, h2]
  exact ⟨by omega, by omega, by omega, fun x hx => hM x (List.mem_of_mem_take hx), fun x hx => hM x (List.mem_of_mem_drop hx)⟩
theorem law_rings {w : World} {mean : ExcName → Option Value} {mg mb : Str → Option Value} {st : Stmt} (hst : lawBody[5]? = some st) {sc : Scope} (hsc : lawScope[0]? = some sc) {L fa : Addr} {h₀ : Heap} {m : Str → Option Value} {s : Shared}
    {Q : Flow → Shared → Prop} {E : Value → Shared → Prop} {c : Int} {t tm : Tok} {c0 c1 c2 c3 c4 c5 c6 : Nat} (rest : List (Addr × Obj)) (F : Fr h₀ L s.heap m) (X : (hd.heap_1 w.params).In h₀) (N : News h₀ L s.heap rest) (T : Top topProg LZ mean mg mb h₀)
    (hmk : m "marks" = some (.str ⟨#[c0, c1, c2, c3, c4, c5, c6]⟩ tm)) (hcut : m "cut" = some (.int c t)) (hc : 1 ≤ c ∧ c ≤ 6) (hM : ∀ x ∈ [c0, c1, c2, c3, c4, c5, c6], isM x)
    (hret : ∀ R r1 r2 t1 t2 h' tk', r1.length + r2.length = 7 ∧ 0 < r1.length ∧ 0 < r2.length ∧ (∀ x ∈ r1.cps.toList, isM x) ∧ (∀ x ∈ r2.cps.toList, isM x) → Fr h₀ L h' (fun y => if y = "rings" then some (.ref R) else m y) →
      News h₀ L h' ((R, listOf #[.str r1 t1, .str r2 t2] 0) :: rest) → (∀ p ∈ rest, @LT.lt Nat _ p.1 R) → Q .next { s with heap := h', toks := tk' }) :
    wpAny (model PG w) (callerA.deeper (envOfC "law" sc L fa (.ref 141))) (exec st (envOfC "law" sc L fa (.ref 141))) Q E s := by
  obtain rfl : st = _ := Option.some.inj (hst.symm.trans (by with_unfolding_all rfl))
  obtain rfl : sc = _ := Option.some.inj (hsc.symm.trans (by with_unfolding_all rfl))
  clear hst hsc
  have F2 := fr_at (fr_at F hmk) (x := Str.ofString "cut") (v := some (.int c t)) ((if_neg (by decide)).trans hcut)
  clear F
  repeat (first | walk1 | (dsimp only; walk1))
  (with_reducible rename Fr _ _ _ _ => F9)
  simp only [at_fr hmk, at_fr hcut] at F9
  exact hret _ _ _ _ _ _ _ (cut_two c0 c1 c2 c3 c4 c5 c6 hc hM) F9 (by k_asm) (by assumption)
noncomputable def dressOf (fs : Str) (b : Array UInt8) : Str := ⟨(drL fs.cps.toList false (b.toList.map UInt8.toNat)).toArray⟩
theorem law_dresses {w : World} {mean : ExcName → Option Value} {mg mb : Str → Option Value} {st : Stmt} (hst : lawBody[7]? = some st) {sc : Scope} (hsc : lawScope[0]? = some sc) {L fa W : Addr} {h₀ base : Heap} {m : Str → Option Value} {s : Shared}
    {Q : Flow → Shared → Prop} {E : Value → Shared → Prop} {fs : Str} {tF : Tok} {oF oD : Obj} {c0 c1 c2 c3 c4 c5 c6 : Array UInt8} {t0 t1 t2 t3 t4 t5 t6 : Tok} (rest : List (Addr × Obj)) (K : Below callerA base [] h₀) (F : Fr h₀ L s.heap m) (X : (hd.heap_1 w.params).In h₀)
    (N : News h₀ L s.heap ((W, LCg.lst [.bytes c0 t0, .bytes c1 t1, .bytes c2 t2, .bytes c3 t3, .bytes c4 t4, .bytes c5 t5, .bytes c6 t6]) :: (L + 3, oD) :: (L + 2, oF) :: rest)) (T : Top topProg LZ mean mg mb h₀)
    (hrows : m "rows" = some (.ref W)) (dF : oF.data = .cell (some (.str fs tF))) (vD : oD.data = .cell none) (hW : @Ne Nat W (L + 3)) (hne : ∀ p ∈ (L + 2, oF) :: rest, p.1 ≠ L + 3)
    (hz0 : c0.size ≤ 7) (hz1 : c1.size ≤ 7) (hz2 : c2.size ≤ 7) (hz3 : c3.size ≤ 7) (hz4 : c4.size ≤ 7) (hz5 : c5.size ≤ 7) (hz6 : c6.size ≤ 7)
    (hret : ∀ D u0 u1 u2 u3 u4 u5 u6 o' h' tk', o'.data = .cell (some (.ref D)) → Fr h₀ L h' m →
      News h₀ L h' ((D, LCg.lst [.str (dressOf fs c0) u0, .str (dressOf fs c1) u1, .str (dressOf fs c2) u2, .str (dressOf fs c3) u3, .str (dressOf fs c4) u4, .str (dressOf fs c5) u5, .str (dressOf fs c6) u6]) :: (W, LCg.lst [.bytes c0 t0, .bytes c1 t1, .bytes c2 t2, .bytes c3 t3, .bytes c4 t4, .bytes c5 t5, .bytes c6 t6]) :: (L + 3, o') :: (L + 2, oF) :: rest) →
      LCg.Off1 D ((W, LCg.lst [.bytes c0 t0, .bytes c1 t1, .bytes c2 t2, .bytes c3 t3, .bytes c4 t4, .bytes c5 t5, .bytes c6 t6]) :: (L + 3, o') :: (L + 2, oF) :: rest) → Q .next { s with heap := h', toks := tk' }) :
    wpAny (model PG w) (callerA.deeper (envOfC "law" sc L fa (.ref 141))) (exec st (envOfC "law" sc L fa (.ref 141))) Q E s := by
  obtain rfl : st = _ := Option.some.inj (hst.symm.trans (by with_unfolding_all rfl))
  obtain rfl : sc = _ := Option.some.inj (hsc.symm.trans (by with_unfolding_all rfl))
  clear hst hsc
  have F2 := fr_at F hrows
  clear F
  repeat ((fail_if_success (with_reducible show LCg.CompSrc _ _ _ _ _ _ _ _ _ _ _ _ _ _)); first | walk1 | (dsimp only; walk1))
  walk_at "CompSrc"
  refine rest_U (fun k y => ∃ u, y = Value.str (dressOf fs ([c0, c1, c2, c3, c4, c5, c6].getD k c0)) u) ?_ ?_
  · intro k v I oI C oC D m2 ys h tk E5 hk hv hC hx F5 N5 off ne
    obtain ⟨c, t, e1, hz, e2⟩ := seven_all (P := fun k => ∃ c t, #[Value.bytes c0 t0, .bytes c1 t1, .bytes c2 t2, .bytes c3 t3, .bytes c4 t4, .bytes c5 t5, .bytes c6 t6][k]? = some (.bytes c t) ∧ c.size ≤ 7 ∧ ([c0, c1, c2, c3, c4, c5, c6].getD k c0) = c) ⟨_, _, rfl, hz0, rfl⟩ ⟨_, _, rfl, hz1, rfl⟩ ⟨_, _, rfl, hz2, rfl⟩ ⟨_, _, rfl, hz3, rfl⟩ ⟨_, _, rfl, hz4, rfl⟩ ⟨_, _, rfl, hz5, rfl⟩ ⟨_, _, rfl, hz6, rfl⟩ k hk
    obtain rfl : v = .bytes c t := Option.some.inj (hv.symm.trans e1)
    clear hv e1
    rw [e2]
    dsimp only
    (repeat' (first | ((first | ((with_reducible show LCg.CompSrc _ _ _ _ _ _ _ _ _ _ _ _ _ _); walk_at "CompSrc"; walk_say "LC src") | ((with_reducible show LCg.CompEnd _ _ _ _ _ _ _ _ _ _ _ _ _ _); walk_at "CompEnd"; walk_say "LC end") | ((with_reducible show LCg.FinE _ _ _ _ _ _ _); walk_at "FinE"; walk_say "LC fin") | ((with_reducible show LCg.FinA _ _ _ _ _ _ _ _); walk_at "FinA"; walk_say "LC finA"))) | (k_unfold; (try dsimp only)) | (k_end; wrow_close) | (dsimp only; (fail_if_success (with_reducible show wpAny _ _ (pyIter _) _ _ _)); (fail_if_success (with_reducible show wpAny _ _ (call (Value.ref _) _) _ _ _)); walk1) | ((fail_if_success (with_reducible show wpAny _ _ (pyIter _) _ _ _)); (fail_if_success (with_reducible show wpAny _ _ (call (Value.ref _) _) _ _ _)); walk1)))
    walk_at "call ref"
    (repeat' (first | ((first | ((with_reducible show LCg.CompSrc _ _ _ _ _ _ _ _ _ _ _ _ _ _); walk_at "CompSrc"; walk_say "LC src") | ((with_reducible show LCg.CompEnd _ _ _ _ _ _ _ _ _ _ _ _ _ _); walk_at "CompEnd"; walk_say "LC end") | ((with_reducible show LCg.FinE _ _ _ _ _ _ _); walk_at "FinE"; walk_say "LC fin") | ((with_reducible show LCg.FinA _ _ _ _ _ _ _ _); walk_at "FinA"; walk_say "LC finA"))) | (k_unfold; (try dsimp only)) | (k_end; wrow_close) | (dsimp only; (fail_if_success (with_reducible show wpAny _ _ (pyIter _) _ _ _)); (fail_if_success (with_reducible show wpAny _ _ (call (Value.ref _) _) _ _ _)); walk1) | ((fail_if_success (with_reducible show wpAny _ _ (pyIter _) _ _ _)); (fail_if_success (with_reducible show wpAny _ _ (call (Value.ref _) _) _ _ _)); walk1)))
  · intro ys hf
    refine filt_seven hf ?_
    rintro _ _ _ _ _ _ _ rfl ⟨u0, rfl⟩ ⟨u1, rfl⟩ ⟨u2, rfl⟩ ⟨u3, rfl⟩ ⟨u4, rfl⟩ ⟨u5, rfl⟩ ⟨u6, rfl⟩
    (repeat' (first | ((first | ((with_reducible show LCg.CompSrc _ _ _ _ _ _ _ _ _ _ _ _ _ _); walk_at "CompSrc"; walk_say "LC src") | ((with_reducible show LCg.CompEnd _ _ _ _ _ _ _ _ _ _ _ _ _ _); walk_at "CompEnd"; walk_say "LC end") | ((with_reducible show LCg.FinE _ _ _ _ _ _ _); walk_at "FinE"; walk_say "LC fin") | ((with_reducible show LCg.FinA _ _ _ _ _ _ _ _); walk_at "FinA"; walk_say "LC finA"))) | (k_unfold; (try dsimp only)) | (k_end; wrow_close) | (dsimp only; (fail_if_success (with_reducible show wpAny _ _ (pyIter _) _ _ _)); (fail_if_success (with_reducible show wpAny _ _ (call (Value.ref _) _) _ _ _)); walk1) | ((fail_if_success (with_reducible show wpAny _ _ (pyIter _) _ _ _)); (fail_if_success (with_reducible show wpAny _ _ (call (Value.ref _) _) _ _ _)); walk1)))
    (with_reducible rename Fr _ _ _ _ => F9)
    simp only [at_fr hrows] at F9
    (with_reducible rename News _ _ _ _ => N9)
    refine' hret _ _ _ _ _ _ _ _ _ _ _ (by assumption) F9 N9 ?_
    simp only [LCg.Off1, and_true]
    k_asm
theorem law_rows {w : World} {mean : ExcName → Option Value} {mg mb : Str → Option Value} {st : Stmt} (hst : lawBody[6]? = some st) {sc : Scope} (hsc : lawScope[0]? = some sc) {L fa R : Addr} {h₀ base : Heap} {m : Str → Option Value} {s : Shared}
    {Q : Flow → Shared → Prop} {E : Value → Shared → Prop} {r1 r2 : Str} {t1 t2 : Tok} (rest : List (Addr × Obj)) (K : Below callerA base [] h₀) (F : Fr h₀ L s.heap m) (X : (hd.heap_1 w.params).In h₀)
    (N : News h₀ L s.heap ((R, listOf #[.str r1 t1, .str r2 t2] 0) :: rest)) (T : Top topProg LZ mean mg mb h₀) (hR : m "rings" = some (.ref R))
    (hl : r1.length + r2.length = 7 ∧ 0 < r1.length ∧ 0 < r2.length ∧ (∀ x ∈ r1.cps.toList, isM x) ∧ (∀ x ∈ r2.cps.toList, isM x))
    (hret : ∀ b W c0 c1 c2 c3 c4 c5 c6 t0 t1' t2' t3 t4 t5 t6 h' tk', (bN b).map (fun (n : Nat) => (n : Int)) = rowsR r1 r1.length ++ rowsR r2 r2.length → RowsAt b [c0, c1, c2, c3, c4, c5, c6] → Fr h₀ L h' (fun y => if y = "rows" then some (.ref W) else m y) →
      News h₀ L h' ((W, LCg.lst [.bytes c0 t0, .bytes c1 t1', .bytes c2 t2', .bytes c3 t3, .bytes c4 t4, .bytes c5 t5, .bytes c6 t6]) :: (R, listOf #[.str r1 t1, .str r2 t2] 0) :: rest) → (∀ p ∈ ((R, listOf #[.str r1 t1, .str r2 t2] 0) :: rest), @Ne Nat p.1 W) → Q .next { s with heap := h', toks := tk' }) :
    wpN (model PG w) (callerA.deeper (envOfC "law" sc L fa (.ref 141))) (exec st (envOfC "law" sc L fa (.ref 141))) Q E s := by
  obtain rfl : st = _ := Option.some.inj (hst.symm.trans (by with_unfolding_all rfl))
  obtain rfl : sc = _ := Option.some.inj (hsc.symm.trans (by with_unfolding_all rfl))
  clear hst hsc
  have F2 := fr_at F hR
  clear F
  obtain ⟨hl1, hl2, hl3, hM1, hM2⟩ := hl
  refine wpN_Assign_Name ?_
  refine wpN_Call_Name (.ref 109) rfl ?_
  (repeat' (first | ((first | ((with_reducible show LCg.CompSrc _ _ _ _ _ _ _ _ _ _ _ _ _ _); walk_at "CompSrc"; walk_say "LC src") | ((with_reducible show LCg.CompEnd _ _ _ _ _ _ _ _ _ _ _ _ _ _); walk_at "CompEnd"; walk_say "LC end") | ((with_reducible show LCg.FinE _ _ _ _ _ _ _); walk_at "FinE"; walk_say "LC fin") | ((with_reducible show LCg.FinA _ _ _ _ _ _ _ _); walk_at "FinA"; walk_say "LC finA"))) | (k_unfold; (try dsimp only)) | (k_end; wrow_close) | (dsimp only; (fail_if_success (with_reducible show wpAny _ _ (pyIter _) _ _ _)); (fail_if_success (with_reducible show wpAny _ _ (call (Value.ref _) _) _ _ _)); walk1) | ((fail_if_success (with_reducible show wpAny _ _ (pyIter _) _ _ _)); (fail_if_success (with_reducible show wpAny _ _ (call (Value.ref _) _) _ _ _)); walk1)))
  refine ⟨rfl, wpN_fn1 ?_⟩
  (repeat' (first | ((first | ((with_reducible show LCg.CompSrc _ _ _ _ _ _ _ _ _ _ _ _ _ _); walk_at "CompSrc"; walk_say "LC src") | ((with_reducible show LCg.CompEnd _ _ _ _ _ _ _ _ _ _ _ _ _ _); walk_at "CompEnd"; walk_say "LC end") | ((with_reducible show LCg.FinE _ _ _ _ _ _ _); walk_at "FinE"; walk_say "LC fin") | ((with_reducible show LCg.FinA _ _ _ _ _ _ _ _); walk_at "FinA"; walk_say "LC finA"))) | (k_unfold; (try dsimp only)) | (k_end; wrow_close) | (dsimp only; (fail_if_success (with_reducible show wpAny _ _ (pyIter _) _ _ _)); (fail_if_success (with_reducible show wpAny _ _ (call (Value.ref _) _) _ _ _)); walk1) | ((fail_if_success (with_reducible show wpAny _ _ (pyIter _) _ _ _)); (fail_if_success (with_reducible show wpAny _ _ (call (Value.ref _) _) _ _ _)); walk1)))
  refine' line_C _ R r1 r2 t1 t2 0 hM1 hM2 (by omega) (by omega) (by omega) (by omega) _ _ _ _ _ _ _ _ _ _ _ _ _ _ _ _ _ ?cB ?cF ?cX ?cN ?cT ?cK ?cr ?cD ?cU ?_
  (((case cB => k_asm); (case cF => k_asm); (case cX => k_asm); (case cN => k_asm); (case cT => k_asm); (case cK => first | exact rfl | assumption); (case cD => ktr_room); (case cU => ktr_units)))
  (case cr => k_mem)
  intro b t9 h9 tk9 hb F9 N9
  try dsimp only
  have hz : b.size = 49 := by
    have h1 := congrArg List.length hb
    rw [List.length_map, bN_len, List.length_append, rowsR_len, rowsR_len] at h1
    omega
  (repeat' (first | ((first | ((with_reducible show LCg.CompSrc _ _ _ _ _ _ _ _ _ _ _ _ _ _); walk_at "CompSrc"; walk_say "LC src") | ((with_reducible show LCg.CompEnd _ _ _ _ _ _ _ _ _ _ _ _ _ _); walk_at "CompEnd"; walk_say "LC end") | ((with_reducible show LCg.FinE _ _ _ _ _ _ _); walk_at "FinE"; walk_say "LC fin") | ((with_reducible show LCg.FinA _ _ _ _ _ _ _ _); walk_at "FinA"; walk_say "LC finA"))) | (k_unfold; (try dsimp only)) | (k_end; wrow_close) | (dsimp only; (fail_if_success (with_reducible show wpAny _ _ (pyIter _) _ _ _)); (fail_if_success (with_reducible show wpAny _ _ (call (Value.ref _) _) _ _ _)); walk1) | ((fail_if_success (with_reducible show wpAny _ _ (pyIter _) _ _ _)); (fail_if_success (with_reducible show wpAny _ _ (call (Value.ref _) _) _ _ _)); walk1)))
  have hfn : FnAt 109 h9 := by
    refine' fnAt_K (K := hd.heap_1 w.params) (X.keeps F9.keep) ?e1
    (case e1 => k_dflt k_is)
  refine ⟨(fun a e => by cases e; exact hfn), wpN_call ?_⟩
  refine' rows_C _ b t9 hz _ _ _ _ _ _ _ _ _ _ _ _ _ _ _ _ ?cB ?cF ?cX ?cN ?cT ?cK ?cD ?cU ?_
  (((case cB => k_asm); (case cF => k_asm); (case cX => k_asm); (case cN => k_asm); (case cT => k_asm); (case cK => first | exact rfl | assumption); (case cD => ktr_room); (case cU => ktr_units)))
  intro W c0 c1 c2 c3 c4 c5 c6 t0 u1 u2 t3 t4 t5 t6 h' tk' hRA F' N' hne
  try dsimp only
  clear F9 F2
  (repeat' (first | ((first | ((with_reducible show LCg.CompSrc _ _ _ _ _ _ _ _ _ _ _ _ _ _); walk_at "CompSrc"; walk_say "LC src") | ((with_reducible show LCg.CompEnd _ _ _ _ _ _ _ _ _ _ _ _ _ _); walk_at "CompEnd"; walk_say "LC end") | ((with_reducible show LCg.FinE _ _ _ _ _ _ _); walk_at "FinE"; walk_say "LC fin") | ((with_reducible show LCg.FinA _ _ _ _ _ _ _ _); walk_at "FinA"; walk_say "LC finA"))) | (k_unfold; (try dsimp only)) | (k_end; wrow_close) | (dsimp only; (fail_if_success (with_reducible show wpAny _ _ (pyIter _) _ _ _)); (fail_if_success (with_reducible show wpAny _ _ (call (Value.ref _) _) _ _ _)); walk1) | ((fail_if_success (with_reducible show wpAny _ _ (pyIter _) _ _ _)); (fail_if_success (with_reducible show wpAny _ _ (call (Value.ref _) _) _ _ _)); walk1)))
  (with_reducible rename Fr _ _ _ _ => F9)
  simp only [at_fr hR] at F9
  exact hret b W c0 c1 c2 c3 c4 c5 c6 _ _ _ _ _ _ _ _ _ hb hRA F9 (by k_asm) hne
theorem law_marks {w : World} {mean : ExcName → Option Value} {mg mb : Str → Option Value} {st : Stmt} (hst : lawBody[2]? = some st) {sc : Scope} (hsc : lawScope[0]? = some sc) {L fa lc : Addr} {h₀ : Heap} {m : Str → Option Value} {s : Shared}
    {Q : Flow → Shared → Prop} {E : Value → Shared → Prop} {k0 k1 k2 k3 k4 k5 k6 : Int} {j0 j1 j2 j3 j4 j5 j6 : Tok} {cnt : Nat} (rest : List (Addr × Obj)) (F : Fr h₀ L s.heap m) (X : (hd.heap_1 w.params).In h₀)
    (N : News h₀ L s.heap ((lc, listOf #[.int k0 j0, .int k1 j1, .int k2 j2, .int k3 j3, .int k4 j4, .int k5 j5, .int k6 j6] cnt) :: rest)) (T : Top topProg LZ mean mg mb h₀) (hc : m "cells" = some (.ref lc))
    (hret : ∀ t h' tk', Fr h₀ L h' (fun y => if y = "marks" then some (.str ⟨#[mkOf k0, mkOf k1, mkOf k2, mkOf k3, mkOf k4, mkOf k5, mkOf k6]⟩ t) else m y) → News h₀ L h' rest → Q .next { s with heap := h', toks := tk' }) :
    wpAny (model PG w) (callerA.deeper (envOfC "law" sc L fa (.ref 141))) (exec st (envOfC "law" sc L fa (.ref 141))) Q E s := by
  obtain rfl : st = _ := Option.some.inj (hst.symm.trans (by with_unfolding_all rfl))
  obtain rfl : sc = _ := Option.some.inj (hsc.symm.trans (by with_unfolding_all rfl))
  clear hst hsc
  have F2 := fr_at F hc
  clear F
  repeat ((fail_if_success (with_reducible show LCg.CompSrc _ _ _ _ _ _ _ _ _ _ _ _ _ _)); first | walk1 | (dsimp only; walk1))
  walk_at "CompSrc"
  refine rest_U (fun k y => ∃ t, y = Value.str ⟨#[mkOf ([k0, k1, k2, k3, k4, k5, k6].getD k 0)]⟩ t) ?_ ?_
  · intro k v I oI C oC D m2 ys h tk E5 hk hv hC hx F5 N5 off ne
    obtain rfl : v = .int ([k0, k1, k2, k3, k4, k5, k6].getD k 0) ([j0, j1, j2, j3, j4, j5, j6].getD k j0) := Option.some.inj (hv.symm.trans (seven_all (P := fun k => #[Value.int k0 j0, .int k1 j1, .int k2 j2, .int k3 j3, .int k4 j4, .int k5 j5, .int k6 j6][k]? = some (.int ([k0, k1, k2, k3, k4, k5, k6].getD k 0) ([j0, j1, j2, j3, j4, j5, j6].getD k j0))) rfl rfl rfl rfl rfl rfl rfl k hk))
    clear hv
    dsimp only
    (repeat' (first | ((first | ((with_reducible show LCg.CompSrc _ _ _ _ _ _ _ _ _ _ _ _ _ _); walk_at "CompSrc"; walk_say "LC src") | ((with_reducible show LCg.CompEnd _ _ _ _ _ _ _ _ _ _ _ _ _ _); walk_at "CompEnd"; walk_say "LC end") | ((with_reducible show LCg.FinE _ _ _ _ _ _ _); walk_at "FinE"; walk_say "LC fin") | ((with_reducible show LCg.FinA _ _ _ _ _ _ _ _); walk_at "FinA"; walk_say "LC finA"))) | (k_unfold; (try dsimp only)) | (k_end; wrow_close) | (dsimp only; (fail_if_success (with_reducible show wpAny _ _ (pyIter _) _ _ _)); (fail_if_success (with_reducible show wpAny _ _ (call (Value.ref _) _) _ _ _)); walk1) | ((fail_if_success (with_reducible show wpAny _ _ (pyIter _) _ _ _)); (fail_if_success (with_reducible show wpAny _ _ (call (Value.ref _) _) _ _ _)); walk1)))
  · intro ys hf
    refine filt_seven hf ?_
    rintro _ _ _ _ _ _ _ rfl ⟨t0, rfl⟩ ⟨t1, rfl⟩ ⟨t2, rfl⟩ ⟨t3, rfl⟩ ⟨t4, rfl⟩ ⟨t5, rfl⟩ ⟨t6, rfl⟩
    intro D h tk F9 N9 o1
    (repeat' (first | ((first | ((with_reducible show LCg.CompSrc _ _ _ _ _ _ _ _ _ _ _ _ _ _); walk_at "CompSrc"; walk_say "LC src") | ((with_reducible show LCg.CompEnd _ _ _ _ _ _ _ _ _ _ _ _ _ _); walk_at "CompEnd"; walk_say "LC end") | ((with_reducible show LCg.FinE _ _ _ _ _ _ _); walk_at "FinE"; walk_say "LC fin") | ((with_reducible show LCg.FinA _ _ _ _ _ _ _ _); walk_at "FinA"; walk_say "LC finA"))) | (k_unfold; (try dsimp only)) | (k_end; wrow_close) | (dsimp only; (fail_if_success (with_reducible show wpAny _ _ (pyIter _) _ _ _)); (fail_if_success (with_reducible show wpAny _ _ (call (Value.ref _) _) _ _ _)); walk1) | ((fail_if_success (with_reducible show wpAny _ _ (pyIter _) _ _ _)); (fail_if_success (with_reducible show wpAny _ _ (call (Value.ref _) _) _ _ _)); walk1)))
    (with_reducible rename Fr _ _ _ _ => F9)
    simp only [at_fr hc] at F9
    (with_reducible rename News _ _ _ _ => N9)
    exact hret _ _ _ F9 (news_sub N9 fun p hp => List.mem_cons_of_mem _ (List.mem_cons_of_mem _ hp))
theorem law_total {w : World} {mean : ExcName → Option Value} {mg mb : Str → Option Value} {st : Stmt} (hst : lawBody[1]? = some st) {sc : Scope} (hsc : lawScope[0]? = some sc) {L fa lc : Addr} {h₀ : Heap} {m : Str → Option Value} {s : Shared}
    {Q : Flow → Shared → Prop} {E : Value → Shared → Prop} {k0 k1 k2 k3 k4 k5 k6 : Int} {j0 j1 j2 j3 j4 j5 j6 : Tok} {cnt : Nat} {oT : Obj} (rest : List (Addr × Obj)) (F : Fr h₀ L s.heap m) (X : (hd.heap_1 w.params).In h₀)
    (N : News h₀ L s.heap ((lc, listOf #[.int k0 j0, .int k1 j1, .int k2 j2, .int k3 j3, .int k4 j4, .int k5 j5, .int k6 j6] cnt) :: (L + 1, oT) :: rest)) (T : Top topProg LZ mean mg mb h₀) (hc : m "cells" = some (.ref lc)) (vT : oT.data = .cell none) (hlc : @Ne Nat lc (L + 1)) (hne : ∀ p ∈ rest, p.1 ≠ L + 1)
    (hk0 : 0 ≤ k0 ∧ k0 ≤ 7 + 1000000 * ((63 : Nat) : Int)) (hk1 : 0 ≤ k1 ∧ k1 ≤ 7 + 1000000 * ((63 : Nat) : Int)) (hk2 : 0 ≤ k2 ∧ k2 ≤ 7 + 1000000 * ((63 : Nat) : Int)) (hk3 : 0 ≤ k3 ∧ k3 ≤ 7 + 1000000 * ((63 : Nat) : Int)) (hk4 : 0 ≤ k4 ∧ k4 ≤ 7 + 1000000 * ((63 : Nat) : Int)) (hk5 : 0 ≤ k5 ∧ k5 ≤ 7 + 1000000 * ((63 : Nat) : Int)) (hk6 : 0 ≤ k6 ∧ k6 ≤ 7 + 1000000 * ((63 : Nat) : Int))
    (hret : ∀ S t o' h' tk', 0 ≤ S ∧ S ≤ 1000000000 → o'.data = .cell (some (.int S t)) → Fr h₀ L h' m → News h₀ L h' ((lc, listOf #[.int k0 j0, .int k1 j1, .int k2 j2, .int k3 j3, .int k4 j4, .int k5 j5, .int k6 j6] cnt) :: (L + 1, o') :: rest) → Q .next { s with heap := h', toks := tk' }) :
    wpAny (model PG w) (callerA.deeper (envOfC "law" sc L fa (.ref 141))) (exec st (envOfC "law" sc L fa (.ref 141))) Q E s := by
  obtain rfl : st = _ := Option.some.inj (hst.symm.trans (by with_unfolding_all rfl))
  obtain rfl : sc = _ := Option.some.inj (hsc.symm.trans (by with_unfolding_all rfl))
  clear hst hsc
  have F2 := fr_at F hc
  clear F
  have hIk : IntsAre [Value.int k0 j0, .int k1 j1, .int k2 j2, .int k3 j3, .int k4 j4, .int k5 j5, .int k6 j6] [k0, k1, k2, k3, k4, k5, k6] := .cons _ _ (.cons _ _ (.cons _ _ (.cons _ _ (.cons _ _ (.cons _ _ (.cons _ _ .nil))))))
  (repeat' (first | ((first | ((with_reducible show LCg.CompSrc _ _ _ _ _ _ _ _ _ _ _ _ _ _); walk_at "CompSrc"; walk_say "LC src") | ((with_reducible show LCg.CompEnd _ _ _ _ _ _ _ _ _ _ _ _ _ _); walk_at "CompEnd"; walk_say "LC end") | ((with_reducible show LCg.FinE _ _ _ _ _ _ _); walk_at "FinE"; walk_say "LC fin") | ((with_reducible show LCg.FinA _ _ _ _ _ _ _ _); walk_at "FinA"; walk_say "LC finA"))) | (k_unfold; (try dsimp only)) | (k_end; wrow_close) | (dsimp only; (fail_if_success (with_reducible show wpAny _ _ (pyIter _) _ _ _)); (fail_if_success (with_reducible show wpAny _ _ (call (Value.ref _) _) _ _ _)); walk1) | ((fail_if_success (with_reducible show wpAny _ _ (pyIter _) _ _ _)); (fail_if_success (with_reducible show wpAny _ _ (call (Value.ref _) _) _ _ _)); walk1)))
  (with_reducible rename Fr _ _ _ _ => F9)
  simp only [at_fr hc] at F9
  exact hret (k0 + (k1 + (k2 + (k3 + (k4 + (k5 + (k6 + 0))))))) _ _ _ _ (by omega) (by assumption) F9 (by k_asm)
abbrev tupO (x : Str) (u : Tok) (k : Int) (v : Tok) : Obj := { cls := .type "tuple", data := .seq #[.str x u, .int k v] }
theorem law_order {w : World} {mean : ExcName → Option Value} {mg mb : Str → Option Value} {st : Stmt} (hst : lawBody[10]? = some st) {sc : Scope} (hsc : lawScope[0]? = some sc) {L fa tb : Addr} {h₀ : Heap} {m : Str → Option Value} {s : Shared}
    {Q : Flow → Shared → Prop} {E : Value → Shared → Prop} {b0 b1 b2 b3 b4 b5 b6 : Addr} {x0 x1 x2 x3 x4 x5 x6 : Str} {u0 u1 u2 u3 u4 u5 u6 v0 v1 v2 v3 v4 v5 v6 : Tok} {o0 o1 o2 o3 o4 o5 o6 : Int} (rest : List (Addr × Obj)) (F : Fr h₀ L s.heap m) (X : (hd.heap_1 w.params).In h₀)
    (N : News h₀ L s.heap ((tb, LCg.lst [.ref b0, .ref b1, .ref b2, .ref b3, .ref b4, .ref b5, .ref b6]) :: (b0, tupO x0 u0 o0 v0) :: (b1, tupO x1 u1 o1 v1) :: (b2, tupO x2 u2 o2 v2) :: (b3, tupO x3 u3 o3 v3) :: (b4, tupO x4 u4 o4 v4) :: (b5, tupO x5 u5 o5 v5) :: (b6, tupO x6 u6 o6 v6) :: rest))
    (T : Top topProg LZ mean mg mb h₀) (htb : m "table" = some (.ref tb))
    (hret : ∀ O h' tk', Fr h₀ L h' (fun y => if y = "order" then some (.ref O) else m y) → News h₀ L h' ((O, LCg.lst [.int o0 v0, .int o1 v1, .int o2 v2, .int o3 v3, .int o4 v4, .int o5 v5, .int o6 v6]) :: rest) → LCg.Off1 O rest → Q .next { s with heap := h', toks := tk' }) :
    wpAny (model PG w) (callerA.deeper (envOfC "law" sc L fa (.ref 141))) (exec st (envOfC "law" sc L fa (.ref 141))) Q E s := by
  obtain rfl : st = _ := Option.some.inj (hst.symm.trans (by with_unfolding_all rfl))
  obtain rfl : sc = _ := Option.some.inj (hsc.symm.trans (by with_unfolding_all rfl))
  clear hst hsc
  have F2 := fr_at F htb
  clear F
  repeat ((fail_if_success (with_reducible show LCg.CompSrc _ _ _ _ _ _ _ _ _ _ _ _ _ _)); first | walk1 | (dsimp only; walk1))
  walk_at "CompSrc"
  refine rest_U (fun k y => y = Value.int ([o0, o1, o2, o3, o4, o5, o6].getD k 0) ([v0, v1, v2, v3, v4, v5, v6].getD k v0)) ?_ ?_
  · intro k v I oI C oC D m2 ys h tk E5 hk hv hC hx F5 N5 off ne
    obtain ⟨d, xx, uu, e1, e2⟩ := seven_all (P := fun k => ∃ d xx uu, #[Value.ref b0, .ref b1, .ref b2, .ref b3, .ref b4, .ref b5, .ref b6][k]? = some (.ref d) ∧ (d, tupO xx uu ([o0, o1, o2, o3, o4, o5, o6].getD k 0) ([v0, v1, v2, v3, v4, v5, v6].getD k v0)) ∈ (tb, LCg.lst [.ref b0, .ref b1, .ref b2, .ref b3, .ref b4, .ref b5, .ref b6]) :: (b0, tupO x0 u0 o0 v0) :: (b1, tupO x1 u1 o1 v1) :: (b2, tupO x2 u2 o2 v2) :: (b3, tupO x3 u3 o3 v3) :: (b4, tupO x4 u4 o4 v4) :: (b5, tupO x5 u5 o5 v5) :: (b6, tupO x6 u6 o6 v6) :: rest) ⟨b0, x0, u0, rfl, mem_pick 1 List.mem_cons_self⟩ ⟨b1, x1, u1, rfl, mem_pick 2 List.mem_cons_self⟩ ⟨b2, x2, u2, rfl, mem_pick 3 List.mem_cons_self⟩ ⟨b3, x3, u3, rfl, mem_pick 4 List.mem_cons_self⟩ ⟨b4, x4, u4, rfl, mem_pick 5 List.mem_cons_self⟩ ⟨b5, x5, u5, rfl, mem_pick 6 List.mem_cons_self⟩ ⟨b6, x6, u6, rfl, mem_pick 7 List.mem_cons_self⟩ k hk
    obtain rfl : v = .ref d := Option.some.inj (hv.symm.trans e1)
    replace N5 := news_sub N5 (fc (dm 3 e2) fun p hp => hp)
    clear hv e1 e2
    dsimp only
    (repeat' (first | ((first | ((with_reducible show LCg.CompSrc _ _ _ _ _ _ _ _ _ _ _ _ _ _); walk_at "CompSrc"; walk_say "LC src") | ((with_reducible show LCg.CompEnd _ _ _ _ _ _ _ _ _ _ _ _ _ _); walk_at "CompEnd"; walk_say "LC end") | ((with_reducible show LCg.FinE _ _ _ _ _ _ _); walk_at "FinE"; walk_say "LC fin") | ((with_reducible show LCg.FinA _ _ _ _ _ _ _ _); walk_at "FinA"; walk_say "LC finA"))) | (k_unfold; (try dsimp only)) | (k_end; wrow_close) | (dsimp only; (fail_if_success (with_reducible show wpAny _ _ (pyIter _) _ _ _)); (fail_if_success (with_reducible show wpAny _ _ (call (Value.ref _) _) _ _ _)); walk1) | ((fail_if_success (with_reducible show wpAny _ _ (pyIter _) _ _ _)); (fail_if_success (with_reducible show wpAny _ _ (call (Value.ref _) _) _ _ _)); walk1)))
    (with_reducible rename Fr _ _ _ _ => F9)
    (with_reducible rename News _ _ _ _ => N9)
    exact LCg.CompEnd.intro F9 N9 _ (fun _ h => List.mem_cons_of_mem _ h) off (Or.inr ⟨_, List.mem_cons_self, rfl, _, rfl⟩) ⟨rfl, rfl⟩
  · intro ys hf
    refine filt_seven hf ?_
    rintro _ _ _ _ _ _ _ rfl rfl rfl rfl rfl rfl rfl rfl
    intro D h tk F9 N9 o1
    simp only [at_fr htb] at F9
    obtain ⟨-, -, -, -, -, -, -, -, o9⟩ := o1
    exact hret _ _ _ F9 (news_sub N9 (fc (mem_pick 0 List.mem_cons_self) fun p hp => dm 9 hp)) o9
theorem law_table {w : World} {mean : ExcName → Option Value} {mg mb : Str → Option Value} {st : Stmt} (hst : lawBody[8]? = some st) {sc : Scope} (hsc : lawScope[0]? = some sc) {L fa : Addr} {h₀ : Heap} {m : Str → Option Value} {s : Shared}
    {Q : Flow → Shared → Prop} {E : Value → Shared → Prop} (rest : List (Addr × Obj)) (F : Fr h₀ L s.heap m) (X : (hd.heap_1 w.params).In h₀) (N : News h₀ L s.heap rest) (T : Top topProg LZ mean mg mb h₀)
    (hret : ∀ tb h' tk', Fr h₀ L h' (fun y => if y = "table" then some (.ref tb) else m y) → News h₀ L h' ((tb, listOf (List.toArray []) 0) :: rest) → (∀ p ∈ rest, @LT.lt Nat _ p.1 tb) → Q .next { s with heap := h', toks := tk' }) :
    wpAny (model PG w) (callerA.deeper (envOfC "law" sc L fa (.ref 141))) (exec st (envOfC "law" sc L fa (.ref 141))) Q E s := by
  obtain rfl : st = _ := Option.some.inj (hst.symm.trans (by with_unfolding_all rfl))
  obtain rfl : sc = _ := Option.some.inj (hsc.symm.trans (by with_unfolding_all rfl))
  clear hst hsc
  (repeat' (first | ((first | ((with_reducible show LCg.CompSrc _ _ _ _ _ _ _ _ _ _ _ _ _ _); walk_at "CompSrc"; walk_say "LC src") | ((with_reducible show LCg.CompEnd _ _ _ _ _ _ _ _ _ _ _ _ _ _); walk_at "CompEnd"; walk_say "LC end") | ((with_reducible show LCg.FinE _ _ _ _ _ _ _); walk_at "FinE"; walk_say "LC fin") | ((with_reducible show LCg.FinA _ _ _ _ _ _ _ _); walk_at "FinA"; walk_say "LC finA"))) | (k_unfold; (try dsimp only)) | (k_end; wrow_close) | (dsimp only; (fail_if_success (with_reducible show wpAny _ _ (pyIter _) _ _ _)); (fail_if_success (with_reducible show wpAny _ _ (call (Value.ref _) _) _ _ _)); walk1) | ((fail_if_success (with_reducible show wpAny _ _ (pyIter _) _ _ _)); (fail_if_success (with_reducible show wpAny _ _ (call (Value.ref _) _) _ _ _)); walk1)))
  exact hret _ _ _ (by k_asm) (by k_asm) (by assumption)
theorem law_cells0 {w : World} {mean : ExcName → Option Value} {mg mb : Str → Option Value} {st : Stmt} (hst : lawBody[0]? = some st) {sc : Scope} (hsc : lawScope[0]? = some sc) {L fa sl : Addr} {h₀ base : Heap} {m : Str → Option Value} {s : Shared}
    {Q : Flow → Shared → Prop} {E : Value → Shared → Prop} {ws : List Value} {ns : List Int} (rest : List (Addr × Obj)) (K : Below callerA base [] h₀) (F : Fr h₀ L s.heap m) (X : (hd.heap_1 w.params).In h₀) (N : News h₀ L s.heap rest) (T : Top topProg LZ mean mg mb h₀)
    (hs : m "script" = some (.ref sl)) (hl : h₀.IsList sl ws.toArray) (hI : IntsAre ws ns) (hn : ns.length ≤ 63)
    (hret : ∀ lc k0 k1 k2 k3 k4 k5 k6 j0 j1 j2 j3 j4 j5 j6 cnt h' tk', CellsB 63 [k0, k1, k2, k3, k4, k5, k6] → Fr h₀ L h' (fun y => if y = "cells" then some (.ref lc) else m y) → News h₀ L h' ((lc, listOf #[.int k0 j0, .int k1 j1, .int k2 j2, .int k3 j3, .int k4 j4, .int k5 j5, .int k6 j6] cnt) :: rest) → (∀ p ∈ rest, @LT.lt Nat _ p.1 lc) → Q .next { s with heap := h', toks := tk' }) :
    wpAny (model PG w) (callerA.deeper (envOfC "law" sc L fa (.ref 141))) (exec st (envOfC "law" sc L fa (.ref 141))) Q E s := by
  obtain rfl : st = _ := Option.some.inj (hst.symm.trans (by with_unfolding_all rfl))
  obtain rfl : sc = _ := Option.some.inj (hsc.symm.trans (by with_unfolding_all rfl))
  clear hst hsc
  have F2 := fr_at F hs
  clear F
  (repeat' (first | (k_unfold; (try dsimp only)) | (k_end; wrow_close) | ((fail_if_success (with_reducible show wpAny _ _ (call (Value.ref _) _) _ _ _)); walk1) | (dsimp only; (fail_if_success (with_reducible show wpAny _ _ (call (Value.ref _) _) _ _ _)); walk1)))
  refine' cells_C _ _ _ _ hI _ _ _ _ _ _ _ _ _ _ _ _ _ _ _ _ _ ?cB ?cF ?cX ?cN ?cT ?cK hl hn ?cD ?cU ?_
  (((case cB => k_asm); (case cF => k_asm); (case cX => k_asm); (case cN => k_asm); (case cT => k_asm); (case cK => first | exact rfl | assumption); (case cD => ktr_room); (case cU => ktr_units)))
  intro lc us ks cnt h2 tk2 hIk hkl hkB F3 N3 hlc
  try dsimp only
  refine ints_seven hIk hkl ?_
  intro k0 k1 k2 k3 k4 k5 k6 j0 j1 j2 j3 j4 j5 j6 ek eu
  subst ek eu
  (repeat' (first | (k_unfold; (try dsimp only)) | (k_end; wrow_close) | ((fail_if_success (with_reducible show wpAny _ _ (call (Value.ref _) _) _ _ _)); walk1) | (dsimp only; (fail_if_success (with_reducible show wpAny _ _ (call (Value.ref _) _) _ _ _)); walk1)))
  (with_reducible rename Fr _ _ _ _ => F9)
  simp only [at_fr hs] at F9
  exact hret lc k0 k1 k2 k3 k4 k5 k6 j0 j1 j2 j3 j4 j5 j6 cnt _ _ hkB F9 (by k_asm) hlc
theorem law_true {w : World} {st : Stmt} (hst : lawBody[13]? = some st) {sc : Scope} {L fa : Addr} {s : Shared} {Q : Flow → Shared → Prop} {E : Value → Shared → Prop} (hret : Q (.ret (.bool true)) s) :
    wpAny (model PG w) (callerA.deeper (envOfC "law" sc L fa (.ref 141))) (exec st (envOfC "law" sc L fa (.ref 141))) Q E s := by
  obtain rfl : st = _ := Option.some.inj (hst.symm.trans (by with_unfolding_all rfl))
  (repeat' (first | (k_unfold; (try dsimp only)) | (k_end; wrow_close) | ((fail_if_success (with_reducible show wpAny _ _ (call (Value.ref _) _) _ _ _)); walk1) | (dsimp only; (fail_if_success (with_reducible show wpAny _ _ (call (Value.ref _) _) _ _ _)); walk1)))
  exact hret
abbrev tupI (a : Int) (u : Tok) (b : Int) (v : Tok) : Obj := { cls := .type "tuple", data := .seq #[.int a u, .int b v] }
/-- the pairs so far, the list's items, the ledger with their tuples -/
inductive FrcAt (rest : List (Addr × Obj)) : List (Int × Int) → List Value → List (Addr × Obj) → Prop
  | nil : FrcAt rest [] [] rest
  | snoc {l ys nw} (d : Addr) (a : Int) (u : Tok) (b : Int) (v : Tok) : FrcAt rest l ys nw → (∀ p ∈ nw, @LT.lt Nat _ p.1 d) → FrcAt rest (l ++ [(a, b)]) (ys ++ [.ref d]) ((d, tupI a u b v) :: nw)
theorem FrcAt.len {rest : List (Addr × Obj)} {l : List (Int × Int)} {ys : List Value} {nw : List (Addr × Obj)} (h : FrcAt rest l ys nw) : ys.length = l.length := by
  induction h with
  | nil => rfl
  | snoc _ _ _ _ _ _ _ ih => simp only [List.length_append, List.length_singleton, ih]
theorem FrcAt.sub {rest : List (Addr × Obj)} {l : List (Int × Int)} {ys : List Value} {nw : List (Addr × Obj)} (h : FrcAt rest l ys nw) : ∀ p ∈ rest, p ∈ nw := by
  induction h with
  | nil => exact fun p hp => hp
  | snoc _ _ _ _ _ _ _ ih => exact fun p hp => List.mem_cons_of_mem _ (ih p hp)
theorem FrcAt.last {C : Prop} {rest : List (Addr × Obj)} {l : List (Int × Int)} {ys : List Value} {nw : List (Addr × Obj)} {n : Nat} (h : FrcAt rest l ys nw) (e : l.length = n + 1)
    (k : ∀ l' ys' nw' d a u b v, l'.length = n → FrcAt rest l' ys' nw' → (∀ p ∈ rest, @LT.lt Nat _ p.1 d) → l = l' ++ [(a, b)] → ys = ys' ++ [.ref d] → nw = (d, tupI a u b v) :: nw' → C) : C := by
  cases h with
  | nil => simp at e
  | snoc d a u b v h' hd => exact k _ _ _ d a u b v (by simpa using e) h' (fun p hp => hd p (h'.sub p hp)) rfl rfl rfl
theorem FrcAt.zero {rest : List (Addr × Obj)} {l : List (Int × Int)} {ys : List Value} {nw : List (Addr × Obj)} (h : FrcAt rest l ys nw) (e : l.length = 0) : l = [] ∧ ys = [] ∧ rest = nw := by
  cases h with
  | nil => exact ⟨rfl, rfl, rfl⟩
  | snoc => simp at e
theorem FrcAt.seven {C : Prop} {rest : List (Addr × Obj)} {l : List (Int × Int)} {ys : List Value} {nw : List (Addr × Obj)} (h : FrcAt rest l ys nw) (e : l.length = 7)
    (k : ∀ d0 d1 d2 d3 d4 d5 d6 a0 a1 a2 a3 a4 a5 a6 b0 b1 b2 b3 b4 b5 b6 u0 u1 u2 u3 u4 u5 u6 v0 v1 v2 v3 v4 v5 v6, l = [(a0, b0), (a1, b1), (a2, b2), (a3, b3), (a4, b4), (a5, b5), (a6, b6)] → ys = [.ref d0, .ref d1, .ref d2, .ref d3, .ref d4, .ref d5, .ref d6] →
      nw = (d6, tupI a6 u6 b6 v6) :: (d5, tupI a5 u5 b5 v5) :: (d4, tupI a4 u4 b4 v4) :: (d3, tupI a3 u3 b3 v3) :: (d2, tupI a2 u2 b2 v2) :: (d1, tupI a1 u1 b1 v1) :: (d0, tupI a0 u0 b0 v0) :: rest →
      (∀ p ∈ rest, @LT.lt Nat _ p.1 d0 ∧ @LT.lt Nat _ p.1 d1 ∧ @LT.lt Nat _ p.1 d2 ∧ @LT.lt Nat _ p.1 d3 ∧ @LT.lt Nat _ p.1 d4 ∧ @LT.lt Nat _ p.1 d5 ∧ @LT.lt Nat _ p.1 d6) → C) : C :=
  h.last e fun _ _ _ _ _ _ _ _ e h q6 g6 y6 w6 => h.last e fun _ _ _ _ _ _ _ _ e h q5 g5 y5 w5 => h.last e fun _ _ _ _ _ _ _ _ e h q4 g4 y4 w4 => h.last e fun _ _ _ _ _ _ _ _ e h q3 g3 y3 w3 => h.last e fun _ _ _ _ _ _ _ _ e h q2 g2 y2 w2 =>
    h.last e fun _ _ _ _ _ _ _ _ e h q1 g1 y1 w1 => h.last e fun _ _ _ _ _ _ _ _ e h q0 g0 y0 w0 => by
      obtain ⟨gz, yz, wz⟩ := h.zero e
      subst gz yz wz g0 g1 g2 g3 g4 g5 g6 y0 y1 y2 y3 y4 y5 y6 w0 w1 w2 w3 w4 w5 w6
      exact k _ _ _ _ _ _ _ _ _ _ _ _ _ _ _ _ _ _ _ _ _ _ _ _ _ _ _ _ _ _ _ _ _ _ _ rfl rfl rfl fun p hp => ⟨q0 p hp, q1 p hp, q2 p hp, q3 p hp, q4 p hp, q5 p hp, q6 p hp⟩
/-- the fraction of the ring r, read from its mark k on -/
noncomputable def frc (fs r : Str) (k : Nat) : Int × Int := (fA fs.cps.toList ((List.range r.length).map fun (i : Nat) => chM r (k : Int) (i : Int)), 3 ^ r.length - fW fs.cps.toList ((List.range r.length).map fun (i : Nat) => chM r (k : Int) (i : Int)))
noncomputable def frcs (fs r : Str) (n : Nat) : List (Int × Int) := (List.range n).map (frc fs r)
theorem frcs_succ (fs r : Str) (n : Nat) : frcs fs r (n + 1) = frcs fs r n ++ [frc fs r n] := by
  unfold frcs; rw [List.range_succ, List.map_append]; rfl
theorem at2 {x y v : Value} {i : Nat} (h : #[x, y][i]? = some v) : (i = 0 ∧ v = x) ∨ (i = 1 ∧ v = y) := by
  rcases i with _ | _ | i
  · exact .inl ⟨rfl, (Option.some.inj h).symm⟩
  · exact .inr ⟨rfl, (Option.some.inj h).symm⟩
  · simp at h
theorem off1_mem {D : Addr} : ∀ {l : List (Addr × Obj)}, LCg.Off1 D l → ∀ p ∈ l, @Ne Nat p.1 D
  | [], _, _, hp => nomatch hp
  | _ :: _, h, p, hp => by
    rcases List.mem_cons.mp hp with rfl | hp
    · exact h.1
    · exact off1_mem h.2 p hp
theorem law_fractions {w : World} {mean : ExcName → Option Value} {mg mb : Str → Option Value} {st : Stmt} (hst : lawBody[11]? = some st) {sc : Scope} (hsc : lawScope[0]? = some sc) {L fa R : Addr} {h₀ base : Heap} {m : Str → Option Value} {s : Shared}
    {Q : Flow → Shared → Prop} {E : Value → Shared → Prop} {r1 r2 fs : Str} {t1 t2 tF : Tok} {oF oX : Obj} (rest : List (Addr × Obj)) (K : Below callerA base [] h₀) (F : Fr h₀ L s.heap m) (X : (hd.heap_1 w.params).In h₀)
    (N : News h₀ L s.heap ((R, listOf #[.str r1 t1, .str r2 t2] 0) :: (L + 4, oX) :: (L + 2, oF) :: rest)) (T : Top topProg LZ mean mg mb h₀)
    (hR : m "rings" = some (.ref R)) (dF : oF.data = .cell (some (.str fs tF))) (vX : oX.data = .cell none) (hne : ∀ p ∈ (R, listOf #[.str r1 t1, .str r2 t2] 0) :: (L + 2, oF) :: rest, p.1 ≠ L + 4)
    (hlen : r1.length + r2.length = 7) (h1 : 1 ≤ r1.length) (h2 : 1 ≤ r2.length) (hM1 : ∀ x ∈ r1.cps.toList, isM x) (hM2 : ∀ x ∈ r2.cps.toList, isM x)
    (hret : ∀ V d0 d1 d2 d3 d4 d5 d6 a0 a1 a2 a3 a4 a5 a6 b0 b1 b2 b3 b4 b5 b6 u0 u1 u2 u3 u4 u5 u6 v0 v1 v2 v3 v4 v5 v6 o' h' tk', [(a0, b0), (a1, b1), (a2, b2), (a3, b3), (a4, b4), (a5, b5), (a6, b6)] = frcs fs r1 r1.length ++ frcs fs r2 r2.length → o'.data = .cell (some (.ref V)) → Fr h₀ L h' m →
      News h₀ L h' ((V, LCg.lst [.ref d0, .ref d1, .ref d2, .ref d3, .ref d4, .ref d5, .ref d6]) :: (d6, tupI a6 u6 b6 v6) :: (d5, tupI a5 u5 b5 v5) :: (d4, tupI a4 u4 b4 v4) :: (d3, tupI a3 u3 b3 v3) :: (d2, tupI a2 u2 b2 v2) :: (d1, tupI a1 u1 b1 v1) :: (d0, tupI a0 u0 b0 v0) :: (R, listOf #[.str r1 t1, .str r2 t2] 0) :: (L + 4, o') :: (L + 2, oF) :: rest) →
      (∀ p ∈ (R, listOf #[.str r1 t1, .str r2 t2] 0) :: (L + 4, oX) :: (L + 2, oF) :: rest, @Ne Nat p.1 V ∧ @LT.lt Nat _ p.1 d0 ∧ @LT.lt Nat _ p.1 d1 ∧ @LT.lt Nat _ p.1 d2 ∧ @LT.lt Nat _ p.1 d3 ∧ @LT.lt Nat _ p.1 d4 ∧ @LT.lt Nat _ p.1 d5 ∧ @LT.lt Nat _ p.1 d6) → Q .next { s with heap := h', toks := tk' }) :
    wpAny (model PG w) (callerA.deeper (envOfC "law" sc L fa (.ref 141))) (exec st (envOfC "law" sc L fa (.ref 141))) Q E s := by
  obtain rfl : st = _ := Option.some.inj (hst.symm.trans (by with_unfolding_all rfl))
  obtain rfl : sc = _ := Option.some.inj (hsc.symm.trans (by with_unfolding_all rfl))
  clear hst hsc
  have F2 := fr_at F hR
  clear F
  refine wpAny_Assign_Name ?_
  refine' ListComp_Two (m := fun y => if y = "rings" then some (.ref R) else m y) (h₀ := h₀) (L := L) (by with_unfolding_all rfl) (by decide) (by rfl) (by decide) (by rfl) (by rfl) (by decide) ?_ ?hs ?hf
  (case hs => intro _; rfl)
  (case hf => intro _ _; rfl)
  repeat (first | walk1 | (dsimp only; walk1))
  refine ⟨R, #[.str r1 t1, .str r2 t2], 0, (R, listOf #[.str r1 t1, .str r2 t2] 0) :: (L + 4, oX) :: (L + 2, oF) :: rest, fun i => FrcAt ((R, listOf #[.str r1 t1, .str r2 t2] 0) :: (L + 4, oX) :: (L + 2, oF) :: rest) (match i with | 0 => [] | 1 => frcs fs r1 r1.length | _ => frcs fs r1 r1.length ++ frcs fs r2 r2.length), rfl, rfl, F2, N, .head _, Nat.le_of_ble_eq_true rfl, .nil, fun i ys nw h => h.sub _ (.head _), fun g tk i v hv => ?_, fun D h tk ys nw hF F' N' o1 => ?_⟩
  · obtain ⟨r, t, l0, rfl, hr1, hr6, hM, hl0, hin, hout⟩ : ∃ r t l0, v = Value.str r t ∧ 1 ≤ r.length ∧ r.length ≤ 6 ∧ (∀ x ∈ r.cps.toList, isM x) ∧ l0.length ≤ 7 ∧
        (∀ ys nw, FrcAt ((R, listOf #[.str r1 t1, .str r2 t2] 0) :: (L + 4, oX) :: (L + 2, oF) :: rest) (match i with | 0 => [] | 1 => frcs fs r1 r1.length | _ => frcs fs r1 r1.length ++ frcs fs r2 r2.length) ys nw → FrcAt ((R, listOf #[.str r1 t1, .str r2 t2] 0) :: (L + 4, oX) :: (L + 2, oF) :: rest) (l0 ++ frcs fs r 0) ys nw) ∧
        ∀ ys nw, FrcAt ((R, listOf #[.str r1 t1, .str r2 t2] 0) :: (L + 4, oX) :: (L + 2, oF) :: rest) (l0 ++ frcs fs r r.length) ys nw → FrcAt ((R, listOf #[.str r1 t1, .str r2 t2] 0) :: (L + 4, oX) :: (L + 2, oF) :: rest) (match i + 1 with | 0 => [] | 1 => frcs fs r1 r1.length | _ => frcs fs r1 r1.length ++ frcs fs r2 r2.length) ys nw := by
      rcases at2 hv with ⟨rfl, rfl⟩ | ⟨rfl, rfl⟩
      · exact ⟨r1, t1, [], rfl, h1, by omega, hM1, Nat.zero_le _, fun _ _ h => h, fun _ _ h => h⟩
      · exact ⟨r2, t2, frcs fs r1 r1.length, rfl, h2, by omega, hM2, by simp only [frcs, List.length_map, List.length_range]; omega, fun _ _ h => by simpa [frcs] using h, fun _ _ h => h⟩
    clear hv hM1 hM2 h1 h2 hlen hret
    refine ⟨r.length, fun j ys nw => j ≤ 6 ∧ FrcAt ((R, listOf #[.str r1 t1, .str r2 t2] 0) :: (L + 4, oX) :: (L + 2, oF) :: rest) (l0 ++ frcs fs r j) ys nw, by omega, fun j ys nw hF => ?_, fun ys nw h => ⟨Nat.zero_le _, hin ys nw h⟩, ?_, ?_, fun ys nw h => hout ys nw h.2⟩
    · obtain ⟨hj6, hF⟩ := hF
      have := hF.len
      simp only [List.length_append, frcs, List.length_map, List.length_range] at this
      omega
    · intro ys nw hF I' oI' C' oC' D' m' h' tk' E' hC' hx' F' N'
      (repeat' (first | ((first | ((with_reducible show LCg.CompSrc _ _ _ _ _ _ _ _ _ _ _ _ _ _); walk_at "CompSrc"; walk_say "LC src") | ((with_reducible show LCg.CompEnd _ _ _ _ _ _ _ _ _ _ _ _ _ _); walk_at "CompEnd"; walk_say "LC end") | ((with_reducible show LCg.FinE _ _ _ _ _ _ _); walk_at "FinE"; walk_say "LC fin") | ((with_reducible show LCg.FinA _ _ _ _ _ _ _ _); walk_at "FinA"; walk_say "LC finA"))) | (k_unfold; (try dsimp only)) | (k_end; wrow_close) | (dsimp only; (fail_if_success (with_reducible show wpAny _ _ (pyIter _) _ _ _)); (fail_if_success (with_reducible show wpAny _ _ (call (Value.ref _) _) _ _ _)); walk1) | ((fail_if_success (with_reducible show wpAny _ _ (pyIter _) _ _ _)); (fail_if_success (with_reducible show wpAny _ _ (call (Value.ref _) _) _ _ _)); walk1)))
      all_goals first | assumption | exact news_sub (by assumption) (fun p hp => List.mem_cons_of_mem _ hp)
    · intro j ys nw hj hF I' oI' J' oJ' C' oC' D' m' h' tk' t' E' hC' hx' hy' F' N' ap'
      obtain ⟨hj6, hF⟩ := hF
      replace N' : News h₀ L h' ((L + 2, oF) :: (J', oJ') :: (I', oI') :: (C', oC') :: (D', LCg.lst ys) :: nw) := news_sub N' fun p hp => by
        rcases List.mem_cons.mp hp with rfl | hp
        · exact List.mem_cons_of_mem _ (List.mem_cons_of_mem _ (List.mem_cons_of_mem _ (List.mem_cons_of_mem _ (hF.sub _ (List.mem_cons_of_mem _ (List.mem_cons_of_mem _ (List.mem_cons_self)))))))
        · exact hp
      (repeat' (first | ((first | ((with_reducible show LCg.CompSrc _ _ _ _ _ _ _ _ _ _ _ _ _ _); walk_at "CompSrc"; walk_say "LC src") | ((with_reducible show LCg.CompEnd _ _ _ _ _ _ _ _ _ _ _ _ _ _); walk_at "CompEnd"; walk_say "LC end") | ((with_reducible show LCg.FinE _ _ _ _ _ _ _); walk_at "FinE"; walk_say "LC fin") | ((with_reducible show LCg.FinA _ _ _ _ _ _ _ _); walk_at "FinA"; walk_say "LC finA"))) | (k_unfold; (try dsimp only)) | (k_end; wrow_close) | (dsimp only; (fail_if_success (with_reducible show wpAny _ _ (pyIter _) _ _ _)); (fail_if_success (with_reducible show wpAny _ _ (call (Value.ref _) _) _ _ _)); walk1) | ((fail_if_success (with_reducible show wpAny _ _ (pyIter _) _ _ _)); (fail_if_success (with_reducible show wpAny _ _ (call (Value.ref _) _) _ _ _)); walk1)))
      (k_dflt (refine' frac_C _ _ _ _ _ _ _ _ _ _ _ _ _ _ _ _ _ _ _ _ _ _ _ _ ?cB ?cF ?cX ?cN ?cT ?cK ?cP ?cD ?cU ?_; ((((case cB => k_asm); (case cF => k_asm); (case cX => k_asm); (case cN => k_asm); (case cT => k_asm); (case cK => first | exact rfl | assumption); (case cD => ktr_room); (case cU => ktr_units)))); (case cP => exact ⟨hM, hr1, hr6, by omega, by omega⟩); intro d9 ta9 tb9 h9 tk9 F9 N9 l9; (try dsimp only)))
      k_end
      refine ⟨h9, tk9, (d9, tupI (frc fs r j).1 ta9 (frc fs r j).2 tb9) :: nw, rfl, F9, news_sub N9 (fun p hp => ?_), fun p hp => ?_, ?_⟩
      · simp only [List.mem_cons] at hp ⊢
        rcases hp with h | h | h | h | h | h
        · exact .inr (.inr (.inl h))
        · exact .inr (.inr (.inr (.inl h)))
        · exact .inr (.inr (.inr (.inr (.inl h))))
        · exact .inr (.inr (.inr (.inr (.inr (.inl h)))))
        · exact .inl h
        · exact .inr (.inr (.inr (.inr (.inr (.inr h)))))
      · rcases List.mem_cons.mp hp with rfl | hp
        · exact ⟨Ne.symm (Nat.ne_of_lt (l9 (I', oI') (by simp))), Ne.symm (Nat.ne_of_lt (l9 (J', oJ') (by simp))), Ne.symm (Nat.ne_of_lt (l9 (C', oC') (by simp))), Ne.symm (Nat.ne_of_lt (l9 (D', LCg.lst ys) (by simp)))⟩
        · exact ap' p hp
      · show j + 1 ≤ 6 ∧ FrcAt _ (l0 ++ frcs fs r (j + 1)) _ _
        refine ⟨by omega, ?_⟩
        rw [frcs_succ, ← List.append_assoc]
        exact .snoc d9 _ _ _ _ hF fun p hp => l9 p (by simp [hp])
  · replace hF : FrcAt ((R, listOf #[.str r1 t1, .str r2 t2] 0) :: (L + 4, oX) :: (L + 2, oF) :: rest) (frcs fs r1 r1.length ++ frcs fs r2 r2.length) ys nw := hF
    refine hF.seven (by simp only [List.length_append, frcs, List.length_map, List.length_range]; omega) ?_
    intro d0 d1 d2 d3 d4 d5 d6 a0 a1 a2 a3 a4 a5 a6 b0 b1 b2 b3 b4 b5 b6 u0 u1 u2 u3 u4 u5 u6 v0 v1 v2 v3 v4 v5 v6 e1 ey ew hd
    subst ey ew
    obtain ⟨k0, k1, k2, k3, k4, k5, k6⟩ := hd (L + 4, oX) (by simp)
    have k0 := Ne.symm (Nat.ne_of_lt k0)
    have k1 := Ne.symm (Nat.ne_of_lt k1)
    have k2 := Ne.symm (Nat.ne_of_lt k2)
    have k3 := Ne.symm (Nat.ne_of_lt k3)
    have k4 := Ne.symm (Nat.ne_of_lt k4)
    have k5 := Ne.symm (Nat.ne_of_lt k5)
    have k6 := Ne.symm (Nat.ne_of_lt k6)
    have o2 := o1
    obtain ⟨-, -, -, -, -, -, -, o3, o4, o5, o6⟩ := o2
    have o4' := Ne.symm o4
    obtain ⟨hne1, hne2⟩ := List.forall_mem_cons.mp hne
    dsimp only
    walk1
    (with_reducible rename Fr _ _ _ _ => F9)
    (with_reducible rename News _ _ _ _ => N9)
    simp only [at_fr hR] at F9
    refine hret D d0 d1 d2 d3 d4 d5 d6 a0 a1 a2 a3 a4 a5 a6 b0 b1 b2 b3 b4 b5 b6 _ _ _ _ _ _ _ _ _ _ _ _ _ _ _ _ _ e1.symm (by assumption) F9 N9 fun p hp => ⟨off1_mem o1 p ?_, hd p hp⟩
    iterate 7 (refine List.mem_cons_of_mem _ ?_)
    exact hp
/-- the table's order: by the dress, of like ones the later place first -/
abbrev relS (dr : Nat → List Nat) (a b : Nat) : Prop := dr a < dr b ∨ (dr a = dr b ∧ b < a)
def TabOk (dr : Nat → List Nat) (i : Nat) (ks : List Nat) : Prop := ks.Pairwise (relS dr) ∧ ks.Perm (List.range i)
theorem TabOk.len {dr : Nat → List Nat} {i : Nat} {ks : List Nat} (h : TabOk dr i ks) : ks.length = i := by rw [h.2.length_eq, List.length_range]
theorem relS_lt {dr : Nat → List Nat} {a b : Nat} {x : List Nat} (h : relS dr a b) (hb : dr b < x) : dr a < x := by
  rcases h with h | ⟨h, _⟩
  · exact List.lt_trans h hb
  · rw [h]; exact hb
theorem getD_at {ks : List Nat} {j : Nat} (h : j < ks.length) : ks.getD j 0 = ks[j] := by
  rw [List.getD_eq_getElem?_getD, List.getElem?_eq_getElem h]; rfl
theorem TabOk.mono {dr : Nat → List Nat} {n : Nat} {ks : List Nat} (h : TabOk dr n ks) {x : List Nat} {i j : Nat} (hij : i < j) (hj : j < ks.length) (hx : dr (ks.getD j 0) < x) : dr (ks.getD i 0) < x := by
  have hi : i < ks.length := by omega
  rw [getD_at hj] at hx
  rw [getD_at hi]
  exact relS_lt (List.pairwise_iff_getElem.mp h.1 i j hi hj hij) hx
theorem TabOk.step {dr : Nat → List Nat} {n r : Nat} {ks : List Nat} (h : TabOk dr n ks) (hr : r ≤ ks.length) (h1 : ∀ j, j < r → dr (ks.getD j 0) < dr n) (h2 : ∀ j, r ≤ j → j < ks.length → ¬ dr (ks.getD j 0) < dr n) : TabOk dr (n + 1) (ks.take r ++ n :: ks.drop r) := by
  obtain ⟨hp, hq⟩ := h
  have hlt : ∀ k ∈ ks, k < n := fun k hk => List.mem_range.mp (hq.mem_iff.mp hk)
  have ht : ∀ a ∈ ks.take r, dr a < dr n := fun a ha => by
    obtain ⟨j, hj, rfl⟩ := List.getElem_of_mem ha
    rw [List.length_take] at hj
    have := h1 j (by omega)
    rw [getD_at (by omega)] at this
    rw [List.getElem_take]; exact this
  have hd : ∀ b ∈ ks.drop r, ¬ dr b < dr n := fun b hb => by
    obtain ⟨j, hj, rfl⟩ := List.getElem_of_mem hb
    rw [List.length_drop] at hj
    have := h2 (r + j) (by omega) (by omega)
    rw [getD_at (by omega)] at this
    rw [List.getElem_drop]; exact this
  constructor
  · have hsplit : (ks.take r ++ ks.drop r).Pairwise (relS dr) := by rw [List.take_append_drop]; exact hp
    rw [List.pairwise_append] at hsplit
    obtain ⟨p1, p2, p3⟩ := hsplit
    rw [List.pairwise_append, List.pairwise_cons]
    refine ⟨p1, ⟨fun b hb => ?_, p2⟩, fun a ha b hb => ?_⟩
    · have hnb := hd b hb
      by_cases e : dr n < dr b
      · exact .inl e
      · exact .inr ⟨List.le_antisymm (List.not_lt.mp hnb) (List.not_lt.mp e), hlt b (List.mem_of_mem_drop hb)⟩
    · rcases List.mem_cons.mp hb with rfl | hb
      · exact .inl (ht a ha)
      · exact p3 a ha b hb
  · have e1 : (ks.take r ++ n :: ks.drop r).Perm (n :: (ks.take r ++ ks.drop r)) := List.perm_middle
    rw [List.take_append_drop] at e1
    refine e1.trans ?_
    rw [List.range_succ]
    exact (hq.cons n).trans (List.perm_append_comm (l₁ := [n]) (l₂ := List.range n))
theorem TabOk.zero (dr : Nat → List Nat) : TabOk dr 0 [] := ⟨.nil, .refl _⟩
abbrev lamPI : Arguments := { posonlyargs := [], args := [{ arg := Str.ofString "item", annotation := none, pos := ⟨157, 55, 157, 59⟩ }], vararg := none, kwonlyargs := [], kw_defaults := [], kwarg := none, defaults := [] }
abbrev lamEI : Expr := Expr.Subscript (Expr.Name (Str.ofString "item") ⟨157, 61, 157, 65⟩) (Expr.Constant (.int 0) 0 ⟨157, 66, 157, 67⟩) ⟨157, 61, 157, 68⟩
abbrev lamSI : Scope := { kind := .function, names := [(Str.ofString "item", .local)], isGenerator := false, isCoroutine := false, more := [] }
theorem lamI_fin {h₀ g h h₁ : Heap} {L L' : Addr} {m m' : Str → Option Value} {own own' news : List (Addr × Obj)} {x : Str} {u : Tok} {s : Shared} {Q : Value → Shared → Prop} {tk' : Nat}
    (hret : ∀ (_ : Tok) h' tk', Fr h₀ L h' m → News h₀ L h' news → Q (.str x u) { s with heap := h', toks := tk' }) (KP : Kept (restOf own news) g) (N₁ : News h₀ L h₁ news) (hsub : ∀ p ∈ own, p ∈ news)
    (F' : Fr g L' h m') (kF : Fr h₀ L h m) (kN : News h₀ L h own') (hk : ∀ p ∈ own, p ∈ own') : Q (.str x u) { s with heap := h, toks := tk' } :=
  hret u h tk' kF (news_sub (news_back N₁ hsub hk (news_more KP F' (news_sub N₁ restOf_sub) kN)) fun p hp => List.mem_append_right _ hp)
theorem lamI {w : World} {mean : ExcName → Option Value} {mg mb : Str → Option Value} {news : List (Addr × Obj)} {f c' a : Addr} {oc : Obj} {pm ctv : Value} {qual : Str} {vs' : Array Value} {tq : Tok} {x : Str} {u v : Tok} {k : Int}
  (hf : (f, kla_obj (Str.ofString "<lambda>") qual lamPI lamEI lamSI [] pm c' ctv) ∈ news) (hc : (c', oc) ∈ news) (hd1 : oc.data = .fields vs') (hd2 : vs'[1]? = some (.str qual tq)) (ha : (a, tupO x u k v) ∈ news) :
  CL w mean mg mb 2 f news True [.ref a] (RetV news fun _ => .str x u) := by
  dsimp only [CL]
  intro dp un gd cn cs ca ccd cl outer A₀ base h₀ L m s Q E B F X N T hcs _ hdp hun hret
  have hsub : ∀ p ∈ (f, kla_obj (Str.ofString "<lambda>") qual lamPI lamEI lamSI [] pm c' ctv) :: (c', oc) :: (a, tupO x u k v) :: [], p ∈ news := by
    intro p hp
    simp only [List.mem_cons, List.not_mem_nil, or_false] at hp
    rcases hp with rfl | rfl | rfl <;> assumption
  have NO := news_sub N hsub
  refine wpAny_call ?_
  k_dflt (refine' kla_code2 (news_sub N restOf_sub) restOf_dis ?k1 ?k2 ?k3 NO ?k5 ?kA ?kF ?kK (List.Mem.head _) ?k7 ?k8 ?k9 ?kB ?_ ?c2 ?c3 ?c4 ?c5)
  (case kA => exact rfl)
  (case kF => exact rfl)
  (case kK => first | exact rfl | assumption)
  (case k1 => k_asm)
  (case k2 => k_asm)
  (case k3 => k_asm)
  (case k5 => k_asm)
  (case k7 => exact codeRec_news N hc hd1 hd2)
  (case k8 => ktr_room)
  (case k9 => exact rfl)
  (case c5 => decide)
  (case kB => exact locs rfl)
  (case c2 => exact rfl)
  (case c3 => exact rfl)
  (case c4 => exact rfl)
  intro g' L' h' KP FG' F' N' B' X' T'
  try dsimp only
  try dsimp only [lamEI]
  try k_lift B'
  try k_fold
  k_steps
  exact lamI_fin hret KP N hsub (by k_asm) (by k_asm) (by k_asm) (fun p hp => hp)
section
variable {w : World} {A : Around} {E : Value → Shared → Prop} {s : Shared} {env : Env} {h₀ : Heap} {body : List Stmt} {Q : Flow → Shared → Prop}
/-- a turn's end: the next turn's state -/
def TurnT (h₀ : Heap) (L I : Addr) (io : Obj) (J : (Str → Option Value) → List (Addr × Obj) → Prop) (s₁ : Shared) (f : Flow) (s₂ : Shared) : Prop :=
  f = .next ∧ ∃ h' tk m' nw, s₂ = { s₁ with heap := h', toks := tk } ∧ Fr h₀ L h' m' ∧ News h₀ L h' ((I, io) :: nw) ∧ (∀ p ∈ nw, p.1 ≠ I) ∧ J m' nw
/-- over a range that was just made; the target is a cell, or whatever else 'assign' stores to -/
theorem forRangeT {r : Addr} {x : Str} {px : Pos} {b₀ : Int} {t₀ u₀ v₀ : Tok} {n : Nat} {m₀ : Str → Option Value} {news : List (Addr × Obj)} (J : Nat → (Str → Option Value) → List (Addr × Obj) → Prop)
    (hh : A.handled = none) (hr : IsRange s.heap r 0 b₀ 1 t₀ u₀ v₀) (hsmall : Builtin.Range.small 0 b₀ 1 = true) (hn : Builtin.Range.rangeSize 0 b₀ 1 = (n : Int))
    (F : Fr h₀ env.locals s.heap m₀) (N : News h₀ env.locals s.heap news) (hj : J 0 m₀ news)
    (turn : ∀ (i : Nat) t m₁ news₁ I io s₁, i < n → J i m₁ news₁ → (∀ p ∈ news₁, p.1 ≠ I) → Fr h₀ env.locals s₁.heap m₁ → News h₀ env.locals s₁.heap ((I, io) :: news₁) →
      wpAny (model PG w) A (assign (.Name x px) env (.int (i : Nat) t)) (fun _ s₃ => wpAny (model PG w) A (execs body env) (TurnT h₀ env.locals I io (J (i + 1)) s₁) E s₃) E s₁)
    (done : ∀ m₁ news₁ h tk, J n m₁ news₁ → Fr h₀ env.locals h m₁ → News h₀ env.locals h news₁ → Q .next { s with heap := h, toks := tk }) :
    wpAny (model PG w) A (pyIter (.ref r)) (fun it s₂ => LoopAtT PG w A h₀ env (.Name x px) body Q E it s₂) E s := by
  refine wpAny_pyIter_range hr hsmall ?_
  have W := Walks.range (prog := PG) (w := w) hh s.heap.objs.size 0 1 n
  refine ⟨s.heap.objs.size, [s.heap.objs.size], [s.heap.objs.size], n, _, _, m₀, news, J, rfl, W, ?_, ?_, ?_, ?_, F.push _, fun p hp => ⟨Heap.get?_push_of_some _ (N p hp).1, (N p hp).2⟩, ?_, hj, ?_, ?_⟩
  · simpa using fun e => absurd F.ns.lt (by rw [e]; exact Nat.lt_irrefl _)
  · simpa using next_is_new F
  · intro p hp
    simpa using fun e => absurd (Heap.lt_size (N p hp).1) (by rw [e]; exact Nat.lt_irrefl _)
  · show IsRangeIter _ _ _ _ _
    rw [hn]; simpa using Heap.get?_push_size _ rfl
  · exact fun i s' v Q' hst hQ => wpAny_pure hQ
  · rintro i v m₁ news₁ s₁ own hi ⟨t, rfl⟩ hJ hoff hown hget hin hst F₁ N₁
    obtain ⟨io, hio⟩ : ∃ o, s₁.heap.get? s.heap.objs.size = some o := ⟨_, hst⟩
    have hm := hin s.heap.objs.size (by simp) (next_is_new F) _ hio
    have hoff' : ∀ p ∈ news₁, p.1 ≠ s.heap.objs.size := fun p hp => by simpa using hoff p hp
    have e0 : (0 : Int) + (i : Nat) * 1 = (i : Nat) := by omega
    rw [e0]
    refine wpAny_mono (turn i t m₁ news₁ s.heap.objs.size io s₁ hi hJ hoff' F₁ (fun p hp => N₁ p ?_)) (fun _ s₂ h2 => wpAny_mono h2 (fun f s₃ hp => ?_) fun _ _ e => e) fun _ _ e => e
    · rcases List.mem_cons.mp hp with rfl | h
      · exact List.mem_append_left _ hm
      · exact List.mem_append_right _ h
    · obtain ⟨rfl, h', tk, m', nw, e, F', N', ha, hm'⟩ := hp
      refine ⟨rfl, h', tk, m', nw, e, F', fun p hp => ?_, fun p hp => by simpa using ha p hp, hm'⟩
      rcases List.mem_append.mp hp with h | h
      · have e1 : p.1 = s.heap.objs.size := by simpa using hown p h
        have e2 := hget p h
        rw [e1, hio] at e2
        have e3 := Option.some.inj e2
        have : p = (s.heap.objs.size, p.2) := by rw [← e1]
        rw [this, ← e3]; exact N' _ (List.Mem.head _)
      · exact N' p (List.mem_cons_of_mem _ h)
  · rintro h' tk m' news' F' N' _ hJ
    exact done m' news' h' tk hJ F' N'
end
section
variable {prog : Program} {w : World} {A : Around} {h₀ : Heap} {L : Addr} {m : Str → Option Value} {env : Env} {ct elt : Expr} {x : Str} {scope : Scope} {cl : List (Str × Addr)} {s : Shared} {S : List (Addr × Obj) → Prop} {P : Nat → Value → Prop} {Fin : List Value → List (Addr × Obj) → Prop} {news : List (Addr × Obj)}
/-- a comprehension with one test, turn by turn: which items were taken -/
theorem rest_F {n : Nat} (El : Nat → Value → Prop) (No : Nat → Prop)
    (turn : ∀ k v I oI C oC D m₂ ys h tk (E' : Value → Shared → Prop), k < n → P k v → LCg.NsObj oC m₂ → m₂ x = some v → Fr h₀ L h m → News h₀ L h ((I, oI) :: (C, oC) :: (D, LCg.lst ys) :: news) → LCg.Off3 I C D news → ((@Ne Nat I C) ∧ (@Ne Nat I D) ∧ (@Ne Nat C D)) →
      wpAny (model prog w) A (isTrue ct (compEnvC scope cl C env) (eval ct (compEnvC scope cl C env))) (fun b s' => if b = true then wpAny (model prog w) A (eval elt (compEnvC scope cl C env)) (LCg.CompEnd h₀ L m { s with heap := h, toks := tk } I oI C oC D (LCg.lst ys) S (fun y news' => news' = news ∧ El k y)) E' s'
        else LCg.CompEnd h₀ L m { s with heap := h, toks := tk } I oI C oC D (LCg.lst ys) S (fun _ news' => news' = news ∧ No k) Value.none s') E' { s with heap := h, toks := tk })
    (fin : ∀ ys, Filt El No n ys → Fin ys news) : LCt.CompRestT prog w A h₀ L m env ct elt x scope cl s S P Fin n 0 [] news := by
  have key : ∀ (j i : Nat) (ys : List Value), i + j = n → Filt El No i ys → LCt.CompRestT prog w A h₀ L m env ct elt x scope cl s S P Fin j i ys news := by
    intro j
    induction j with
    | zero =>
      intro i ys hi hy
      obtain rfl : i = n := by omega
      exact LCt.CompRestT.zero (fin ys hy)
    | succ j ih =>
      intro i ys hi hy
      refine LCt.CompRestT.succ ?_
      intro v I oI C oC D m₂ h tk E' hv hC hx F N off ne
      refine wpAny_mono (turn i v I oI C oC D m₂ ys h tk E' (by omega) hv hC hx F N off ne) (fun b s₂ hq => ?_) fun _ _ e => e
      cases b with
      | true =>
        simp only [if_true] at hq ⊢
        refine wpAny_mono hq (fun y s₃ hr => ?_) fun _ _ e => e
        obtain ⟨h', tk', nw, e, F', N', off', hS, rfl, hel⟩ := hr
        exact ⟨h', tk', _, e, F', N', off', hS, ih (i + 1) _ (by omega) (.yes hy hel)⟩
      | false =>
        simp only [Bool.false_eq_true, if_false] at hq ⊢
        obtain ⟨h', tk', nw, e, F', N', off', hS, rfl, hno⟩ := hq
        exact ⟨h', tk', _, e, F', N', off', hS, ih (i + 1) _ (by omega) (.no hy hno)⟩
  exact key n 0 [] (by omega) .zero
end
theorem filt_ints {n : Nat} {ys : List Value} {p : Nat → Prop} [DecidablePred p] (h : Filt (fun k y => ∃ t, y = Value.int (k : Nat) t ∧ p k) (fun k => ¬ p k) n ys) : IntsAre ys (((List.range n).filter fun k => decide (p k)).map Int.ofNat) := by
  induction h with
  | zero => exact .nil
  | @yes i ys y _ hy ih =>
    obtain ⟨t, rfl, hp⟩ := hy
    rw [List.range_succ, List.filter_append, List.map_append]
    refine IntsAre.append ih ?_
    simp only [List.filter_cons, hp, decide_true, if_true, List.filter_nil, List.map_cons, List.map_nil]
    exact .cons _ t .nil
  | @no i ys _ hn ih =>
    rw [List.range_succ, List.filter_append, List.map_append]
    simpa [hn] using ih
theorem filt_count {El : Nat → Value → Prop} {No : Nat → Prop} {n : Nat} {ys : List Value} {p : Nat → Prop} [DecidablePred p] (h : Filt El No n ys) (h1 : ∀ k y, El k y → p k) (h2 : ∀ k, No k → ¬ p k) : ys.length = ((List.range n).filter fun k => decide (p k)).length := by
  induction h with
  | zero => rfl
  | @yes i ys y _ hy ih =>
    rw [List.range_succ, List.filter_append, List.length_append, List.length_append, ih]
    simp [h1 i y hy]
  | @no i ys _ hn ih =>
    rw [List.range_succ, List.filter_append, List.length_append, ih]
    simp [h2 i hn]
theorem bounds_T {w : World} {mean : ExcName → Option Value} {mg mb : Str → Option Value} (rest tl : List (Addr × Obj)) (hT : TabSt tl) (rw od : Addr) (rs os : List Value) (c1 c2 : Nat) (b : Array UInt8) (fs : Str) (t t2 : Tok)
  (dp un : Nat) (gd : Option (List Code)) (cn : Str) (cs : Scope) (ca : Addr) (ccd : Value) (cl : List (Str × Addr)) (outer : List Env) (A₀ : Around) (base h₀ : Heap) (L : Addr) (m : Str → Option Value) (s : Shared) (Q E : Value → Shared → Prop)
  (B : Below A₀ base outer h₀) (F : Fr h₀ L s.heap m) (X : (hd.heap_1 w.params).In h₀) (N : News h₀ L s.heap ((rw, listOf (List.toArray rs) c1) :: (od, listOf (List.toArray os) c2) :: tl)) (NR : News h₀ L s.heap rest)
  (hdis : ∀ p ∈ rest, p.1 ∉ ((rw, listOf (List.toArray rs) c1) :: (od, listOf (List.toArray os) c2) :: tl).map (·.1)) (T : Top topProg LZ mean mg mb h₀) (hcs : cs.kind = .function) (hC : CodeHd base 129 125)
  (hb : b.size = 7) (h125r : @Ne Nat rw 125) (h125o : @Ne Nat od 125) (hro : @Ne Nat rw od)
  (rb : Nat → Array UInt8) (tb : Nat → Tok) (oi : Nat → Nat) (to : Nat → Tok) (hrs : ∀ k, k < 7 → rs[k]? = some (.bytes (rb k) (tb k)) ∧ (rb k).size = 7) (hos : ∀ i, i < 7 → os[i]? = some (.int (oi i : Nat) (to i)) ∧ oi i < 7) (hol : os.length = 7)
  (hm1 : ∀ i j, i < j → j < 7 → cmpB fs.cps.toList (bN b) (rb (oi j)) b [0, 1, 2, 3, 4, 5, 6] < 0 → cmpB fs.cps.toList (bN b) (rb (oi i)) b [0, 1, 2, 3, 4, 5, 6] < 0)
  (hm2 : ∀ i j, i < j → j < 7 → ¬ 0 < cmpB fs.cps.toList (bN b) (rb (oi j)) b [0, 1, 2, 3, 4, 5, 6] → ¬ 0 < cmpB fs.cps.toList (bN b) (rb (oi i)) b [0, 1, 2, 3, 4, 5, 6])
  (hdp : dp + 30 < recursionLimit) (hun : un + 8 * 30 < cLine)
  (hret : ∀ D (r1 r2 : Nat) t1 t2 tl' h' tk', BndIn (fun i => cmpR fs b rb (oi i)) r1 r2 → TabSt tl' → (∀ p ∈ tl', (∃ q ∈ tl, q.1 = p.1) ∨ (∀ q ∈ rest, @LT.lt Nat _ q.1 p.1) ∧ @LT.lt Nat _ rw p.1 ∧ @LT.lt Nat _ od p.1) →
    (∀ q ∈ rest, @LT.lt Nat _ q.1 D) → (∀ q ∈ tl', @LT.lt Nat _ q.1 D) → @LT.lt Nat _ rw D → @LT.lt Nat _ od D → Fr h₀ L h' m →
    News h₀ L h' (((D, tup2 r1 t1 r2 t2) :: (rw, listOf (List.toArray rs) c1) :: (od, listOf (List.toArray os) c2) :: tl') ++ rest) → Q (.ref D) { s with heap := h', toks := tk' }) :
  wpAny (model PG w) (ktrTop dp un gd cn cs L ca ccd cl outer) (call (.ref 130) [.ref rw, .ref od, .bytes b t, .str fs t2]) Q E s := by
  rcases hT with rfl | ⟨k1, o1, v1, tq1, k2, o2, v2, tq2, rfl, a1, a2, a3, a4⟩
  · exact bounds_A rest rw od rs os c1 c2 b fs t t2 dp un gd cn cs ca ccd cl outer A₀ base h₀ L m s Q E B F X N NR hdis T hcs hC hb h125r h125o hro rb tb oi to hrs hos hol hm1 hm2 hdp hun hret
  · exact bounds_B rest rw od k1 k2 o1 o2 v1 v2 tq1 tq2 rs os c1 c2 b fs t t2 dp un gd cn cs ca ccd cl outer A₀ base h₀ L m s Q E B F X N NR hdis T a1 a2 a3 a4 hcs hC hb h125r h125o hro rb tb oi to hrs hos hol hm1 hm2 hdp hun hret
def placeBody : List Stmt := match (lawBody[12]? : Option Stmt) with
  | some (Stmt.For (body := b) ..) => b
  | _ => []
theorem tup_at {w : World} {A : Around} {E : Value → Shared → Prop} {s : Shared} {h₀ : Heap} {L d : Addr} {news : List (Addr × Obj)} {value slice : Expr} {a b : Int} {u v t : Tok} {k : Int} {x : Value} {Q : Value → Shared → Prop} (N : News h₀ L s.heap news) (hm : (d, tupI a u b v) ∈ news)
    (hk : (k = 0 ∧ x = .int a u) ∨ (k = 1 ∧ x = .int b v)) (h : Q x s)
    (hs : subscripted slice false (.ref d) (.int k t) = operate [.ref d, .int k t] (getItem (.ref d) (.int k t)) := by with_unfolding_all rfl) :
    wpAny (model PG w) A (subscriptTail value slice (.ref d) (.int k t)) Q E s := by
  have ht : IsTup s.heap d [Value.int a u, Value.int b v].toArray := ⟨_, (N _ hm).1, rfl, _, rfl⟩
  rcases hk with ⟨rfl, rfl⟩ | ⟨rfl, rfl⟩
  · exact item_tupleT ht (by decide) (by decide) (j := 0) rfl rfl h hs
  · exact item_tupleT ht (by decide) (by decide) (j := 1) rfl rfl h hs
theorem law_pair {w : World} {mean : ExcName → Option Value} {mg mb : Str → Option Value} {st : Stmt} (hst : placeBody[0]? = some st) {sc : Scope} (hsc : lawScope[0]? = some sc) {L fa V : Addr} {h₀ : Heap} {m : Str → Option Value} {s : Shared}
    {Q : Flow → Shared → Prop} {E : Value → Shared → Prop} {fv : List Value} {dv : Nat → Addr} {A B : Nat → Int} {ua ub : Nat → Tok} {i : Nat} {ti : Tok} {oX oP oA oB : Obj} (rest : List (Addr × Obj)) (F : Fr h₀ L s.heap m) (X : (hd.heap_1 w.params).In h₀)
    (N : News h₀ L s.heap ((L + 6, oA) :: (L + 7, oB) :: (V, LCg.lst fv) :: (L + 4, oX) :: (L + 5, oP) :: rest)) (T : Top topProg LZ mean mg mb h₀)
    (dX : oX.data = .cell (some (.ref V))) (dP : oP.data = .cell (some (.int (i : Nat) ti))) (vA : ∃ v, oA.data = .cell v) (vB : ∃ v, oB.data = .cell v) (hi : i < 7)
    (hfr : ∀ k, k < 7 → fv[k]? = some (.ref (dv k)) ∧ (dv k, tupI (A k) (ua k) (B k) (ub k)) ∈ rest) (hne : ∀ p ∈ (V, LCg.lst fv) :: (L + 4, oX) :: (L + 5, oP) :: rest, @Ne Nat p.1 (L + 6) ∧ @Ne Nat p.1 (L + 7))
    (hret : ∀ oA' oB' ta tb h' tk', oA'.data = .cell (some (.int (A i) ta)) → oB'.data = .cell (some (.int (B i) tb)) → Fr h₀ L h' m → News h₀ L h' ((L + 6, oA') :: (L + 7, oB') :: (V, LCg.lst fv) :: (L + 4, oX) :: (L + 5, oP) :: rest) → Q .next { s with heap := h', toks := tk' }) :
    wpAny (model PG w) (callerA.deeper (envOfC "law" sc L fa (.ref 141))) (exec st (envOfC "law" sc L fa (.ref 141))) Q E s := by
  obtain rfl : st = _ := Option.some.inj (hst.symm.trans (by with_unfolding_all rfl))
  obtain rfl : sc = _ := Option.some.inj (hsc.symm.trans (by with_unfolding_all rfl))
  clear hst hsc
  obtain ⟨h1, h2⟩ := hfr i hi
  (repeat' (first | ((first | ((with_reducible show LCg.CompSrc _ _ _ _ _ _ _ _ _ _ _ _ _ _); walk_at "CompSrc"; walk_say "LC src") | ((with_reducible show LCg.CompEnd _ _ _ _ _ _ _ _ _ _ _ _ _ _); walk_at "CompEnd"; walk_say "LC end") | ((with_reducible show LCg.FinE _ _ _ _ _ _ _); walk_at "FinE"; walk_say "LC fin") | ((with_reducible show LCg.FinA _ _ _ _ _ _ _ _); walk_at "FinA"; walk_say "LC finA"))) | (k_unfold; (try dsimp only)) | (k_end; wrow_close) | (dsimp only; (fail_if_success (with_reducible show wpAny _ _ (pyIter _) _ _ _)); (fail_if_success (with_reducible show wpAny _ _ (call (Value.ref _) _) _ _ _)); walk1) | ((fail_if_success (with_reducible show wpAny _ _ (pyIter _) _ _ _)); (fail_if_success (with_reducible show wpAny _ _ (call (Value.ref _) _) _ _ _)); walk1)))
  refine item_mem N (List.mem_cons_of_mem _ (List.mem_cons_of_mem _ List.mem_cons_self)) (by omega) (by omega) h1 ?_
  have hd := hne (dv i, tupI (A i) (ua i) (B i) (ub i)) (by iterate 3 refine List.mem_cons_of_mem _ ?_
                                                            exact h2)
  have N2 := news_sub (own := (dv i, tupI (A i) (ua i) (B i) (ub i)) :: (L + 6, oA) :: (L + 7, oB) :: (V, LCg.lst fv) :: (L + 4, oX) :: (L + 5, oP) :: rest) N fun p hp => by
    rcases List.mem_cons.mp hp with rfl | hp
    · iterate 5 refine List.mem_cons_of_mem _ ?_
      exact h2
    · exact hp
  clear N
  have hV := hne (V, LCg.lst fv) List.mem_cons_self
  have h4 := hne (L + 4, oX) (by simp)
  have h5 := hne (L + 5, oP) (by simp)
  have q6 : ∀ p ∈ rest, @Ne Nat p.1 (L + 6) := fun p hp => (hne p (by iterate 3 refine List.mem_cons_of_mem _ ?_
                                                                      exact hp)).1
  have q7 : ∀ p ∈ rest, @Ne Nat p.1 (L + 7) := fun p hp => (hne p (by iterate 3 refine List.mem_cons_of_mem _ ?_
                                                                      exact hp)).2
  clear hne hfr
  obtain ⟨xA, vA⟩ := vA
  obtain ⟨xB, vB⟩ := vB
  (repeat' (first | ((first | ((with_reducible show LCg.CompSrc _ _ _ _ _ _ _ _ _ _ _ _ _ _); walk_at "CompSrc"; walk_say "LC src") | ((with_reducible show LCg.CompEnd _ _ _ _ _ _ _ _ _ _ _ _ _ _); walk_at "CompEnd"; walk_say "LC end") | ((with_reducible show LCg.FinE _ _ _ _ _ _ _); walk_at "FinE"; walk_say "LC fin") | ((with_reducible show LCg.FinA _ _ _ _ _ _ _ _); walk_at "FinA"; walk_say "LC finA"))) | (k_unfold; (try dsimp only)) | (k_end; wrow_close) | (dsimp only; (fail_if_success (with_reducible show wpAny _ _ (pyIter _) _ _ _)); (fail_if_success (with_reducible show wpAny _ _ (call (Value.ref _) _) _ _ _)); walk1) | ((fail_if_success (with_reducible show wpAny _ _ (pyIter _) _ _ _)); (fail_if_success (with_reducible show wpAny _ _ (call (Value.ref _) _) _ _ _)); walk1)))
  (with_reducible rename Fr _ _ _ _ => F9)
  (with_reducible rename News _ _ _ _ => N9)
  exact hret _ _ _ _ _ _ (by assumption) (by assumption) F9 (news_sub N9 fun p hp => List.mem_cons_of_mem _ hp)
theorem law_less {w : World} {mean : ExcName → Option Value} {mg mb : Str → Option Value} {st : Stmt} (hst : placeBody[1]? = some st) {sc : Scope} (hsc : lawScope[0]? = some sc) {L fa V : Addr} {h₀ : Heap} {m : Str → Option Value} {s : Shared}
    {Q : Flow → Shared → Prop} {E : Value → Shared → Prop} {fv : List Value} {dv : Nat → Addr} {A B : Nat → Int} {ua ub : Nat → Tok} {i : Nat} {ta tb : Tok} {oX oA oB : Obj} (rest : List (Addr × Obj)) (F : Fr h₀ L s.heap m) (X : (hd.heap_1 w.params).In h₀)
    (N : News h₀ L s.heap ((V, LCg.lst fv) :: (L + 4, oX) :: (L + 6, oA) :: (L + 7, oB) :: rest)) (T : Top topProg LZ mean mg mb h₀)
    (dX : oX.data = .cell (some (.ref V))) (dA : oA.data = .cell (some (.int (A i) ta))) (dB : oB.data = .cell (some (.int (B i) tb))) (hfl : fv.length = 7)
    (hbd : ∀ k, k < 7 → 0 ≤ A k ∧ A k ≤ 800 ∧ 0 ≤ B k ∧ B k ≤ 800) (hi : i < 7)
    (hfr : ∀ k, k < 7 → fv[k]? = some (.ref (dv k)) ∧ (dv k, tupI (A k) (ua k) (B k) (ub k)) ∈ rest)
    (hret : ∀ t h' tk', Fr h₀ L h' (fun y => if y = "less" then some (.int (((List.range 7).filter fun k => decide (A k * B i < A i * B k)).length : Nat) t) else m y) → News h₀ L h' ((V, LCg.lst fv) :: (L + 4, oX) :: (L + 6, oA) :: (L + 7, oB) :: rest) → Q .next { s with heap := h', toks := tk' }) :
    wpAny (model PG w) (callerA.deeper (envOfC "law" sc L fa (.ref 141))) (exec st (envOfC "law" sc L fa (.ref 141))) Q E s := by
  obtain rfl : st = _ := Option.some.inj (hst.symm.trans (by with_unfolding_all rfl))
  obtain rfl : sc = _ := Option.some.inj (hsc.symm.trans (by with_unfolding_all rfl))
  clear hst hsc
  iterate 5 (first | walk1 | (dsimp only; walk1))
  refine' ListComp_PT (m := m) (h₀ := h₀) (L := L) (by with_unfolding_all rfl) (by decide) (by rfl) (by decide) (by rfl) (by rfl) (by decide) ?_ ?hs
  (case hs => intro _; rfl)
  repeat (first | walk1 | (dsimp only; walk1))
  (with_reducible rename Fr _ _ _ _ => F9)
  (with_reducible rename News _ _ _ _ => N9)
  refine' SrcPT.of (fun k y => ∃ t, y = Value.int 1 t ∧ A k * B i < A i * B k) (fun k => ¬ A k * B i < A i * B k) F9 N9 ?cm (Or.inl rfl) (by rfl) ?csz (fun g tk k v hv => ?_) (fun D h tk ys hf F N o1 => ?_)
  (case cm => exact List.mem_cons_self)
  (case csz => rw [List.size_toArray, hfl]; exact Nat.le_of_ble_eq_true rfl)
  · clear F9 N9
    have hk : k < 7 := by
      rw [List.getElem?_toArray] at hv
      obtain ⟨h1, _⟩ := List.getElem?_eq_some_iff.mp hv
      omega
    obtain ⟨h1, h2⟩ := hfr k hk
    rw [List.getElem?_toArray, h1] at hv
    cases hv
    obtain ⟨b1, b2, b3, b4⟩ := hbd k hk
    obtain ⟨b5, b6, b7, b8⟩ := hbd i hi
    refine' pair_of ?cm2 ?_
    (case cm2 => (iterate 4 refine List.mem_cons_of_mem _ ?_); exact h2)
    intro I' oI' C' oC' D' ys' m' h' tk' E' hC' hx' hy' F' N' off' ne'
    have z1 : A k * B i ≤ 800 * 800 := Int.mul_le_mul b2 b8 b7 (by omega)
    have z2 : 0 ≤ A k * B i := Int.mul_nonneg b1 b7
    have z3 : A i * B k ≤ 800 * 800 := Int.mul_le_mul b6 b4 b3 (by omega)
    have z4 : 0 ≤ A i * B k := Int.mul_nonneg b5 b3
    (repeat' (first | ((first | ((with_reducible show LCg.CompSrc _ _ _ _ _ _ _ _ _ _ _ _ _ _); walk_at "CompSrc"; walk_say "LC src") | ((with_reducible show LCg.CompEnd _ _ _ _ _ _ _ _ _ _ _ _ _ _); walk_at "CompEnd"; walk_say "LC end") | ((with_reducible show LCg.FinE _ _ _ _ _ _ _); walk_at "FinE"; walk_say "LC fin") | ((with_reducible show LCg.FinA _ _ _ _ _ _ _ _); walk_at "FinA"; walk_say "LC finA"))) | (k_unfold; (try dsimp only)) | (k_end; wrow_close) | (dsimp only; (fail_if_success (with_reducible show wpAny _ _ (pyIter _) _ _ _)); (fail_if_success (with_reducible show wpAny _ _ (call (Value.ref _) _) _ _ _)); walk1) | ((fail_if_success (with_reducible show wpAny _ _ (pyIter _) _ _ _)); (fail_if_success (with_reducible show wpAny _ _ (call (Value.ref _) _) _ _ _)); walk1)))
    all_goals first | assumption | omega
  · have hc := filt_count (p := fun k => A k * B i < A i * B k) hf (fun k y h => by obtain ⟨_, _, h⟩ := h; exact h) (fun k h => h)
    rw [List.size_toArray, hfl] at hc
    have hy := hf.len
    rw [List.size_toArray, hfl] at hy
    iterate 1 (first | walk1 | (dsimp only; walk1))
    refine kst_len N List.mem_cons_self rfl (by omega) ?_
    (repeat' (first | ((first | ((with_reducible show LCg.CompSrc _ _ _ _ _ _ _ _ _ _ _ _ _ _); walk_at "CompSrc"; walk_say "LC src") | ((with_reducible show LCg.CompEnd _ _ _ _ _ _ _ _ _ _ _ _ _ _); walk_at "CompEnd"; walk_say "LC end") | ((with_reducible show LCg.FinE _ _ _ _ _ _ _); walk_at "FinE"; walk_say "LC fin") | ((with_reducible show LCg.FinA _ _ _ _ _ _ _ _); walk_at "FinA"; walk_say "LC finA"))) | (k_unfold; (try dsimp only)) | (k_end; wrow_close) | (dsimp only; (fail_if_success (with_reducible show wpAny _ _ (pyIter _) _ _ _)); (fail_if_success (with_reducible show wpAny _ _ (call (Value.ref _) _) _ _ _)); walk1) | ((fail_if_success (with_reducible show wpAny _ _ (pyIter _) _ _ _)); (fail_if_success (with_reducible show wpAny _ _ (call (Value.ref _) _) _ _ _)); walk1)))
    (with_reducible rename Fr _ _ _ _ => F9)
    (with_reducible rename News _ _ _ _ => N9)
    rw [hc] at F9
    exact hret _ _ _ F9 (news_sub N9 fun p hp => List.mem_cons_of_mem _ hp)
theorem law_like {w : World} {mean : ExcName → Option Value} {mg mb : Str → Option Value} {st : Stmt} (hst : placeBody[2]? = some st) {sc : Scope} (hsc : lawScope[0]? = some sc) {L fa V : Addr} {h₀ : Heap} {m : Str → Option Value} {s : Shared}
    {Q : Flow → Shared → Prop} {E : Value → Shared → Prop} {fv : List Value} {dv : Nat → Addr} {A B : Nat → Int} {ua ub : Nat → Tok} {i : Nat} {ta tb : Tok} {oX oA oB : Obj} (rest : List (Addr × Obj)) (F : Fr h₀ L s.heap m) (X : (hd.heap_1 w.params).In h₀)
    (N : News h₀ L s.heap ((V, LCg.lst fv) :: (L + 4, oX) :: (L + 6, oA) :: (L + 7, oB) :: rest)) (T : Top topProg LZ mean mg mb h₀)
    (dX : oX.data = .cell (some (.ref V))) (dA : oA.data = .cell (some (.int (A i) ta))) (dB : oB.data = .cell (some (.int (B i) tb))) (hfl : fv.length = 7)
    (hbd : ∀ k, k < 7 → 0 ≤ A k ∧ A k ≤ 800 ∧ 0 ≤ B k ∧ B k ≤ 800) (hi : i < 7)
    (hfr : ∀ k, k < 7 → fv[k]? = some (.ref (dv k)) ∧ (dv k, tupI (A k) (ua k) (B k) (ub k)) ∈ rest)
    (hret : ∀ K ys h' tk', IntsAre ys (((List.range 7).filter fun k => decide (A k * B i = A i * B k)).map Int.ofNat) → Fr h₀ L h' (fun y => if y = "like" then some (.ref K) else m y) → News h₀ L h' ((K, LCg.lst ys) :: (V, LCg.lst fv) :: (L + 4, oX) :: (L + 6, oA) :: (L + 7, oB) :: rest) → LCg.Off1 K ((V, LCg.lst fv) :: (L + 4, oX) :: (L + 6, oA) :: (L + 7, oB) :: rest) → Q .next { s with heap := h', toks := tk' }) :
    wpAny (model PG w) (callerA.deeper (envOfC "law" sc L fa (.ref 141))) (exec st (envOfC "law" sc L fa (.ref 141))) Q E s := by
  obtain rfl : st = _ := Option.some.inj (hst.symm.trans (by with_unfolding_all rfl))
  obtain rfl : sc = _ := Option.some.inj (hsc.symm.trans (by with_unfolding_all rfl))
  clear hst hsc
  refine' LCt.Assign_ListComp_T (F₀ := F) (by rfl) (by with_unfolding_all rfl) (by with_unfolding_all rfl) (by decide) (by rfl) (by decide) (by rfl) (by rfl) (by rfl) ?_ ?hs
  (case hs => intro _; rfl)
  iterate 7 (first | walk1 | (dsimp only; walk1))
  (with_reducible rename Fr _ _ _ _ => F9)
  (with_reducible rename News _ _ _ _ => N9)
  refine LCt.CompSrcT.range (n := 7) (by rfl) F9 N9 (by assumption) (by decide) (by decide) (Nat.le_of_ble_eq_true rfl) ?_
  intro g
  refine rest_F (fun k y => ∃ t, y = Value.int (k : Nat) t ∧ A k * B i = A i * B k) (fun k => ¬ A k * B i = A i * B k) ?_ ?_
  · rintro k v I oI C oC D m2 ys h tk E' hk ⟨t9, rfl⟩ hC' hx' F' N' off' ne'
    rw [Int.zero_add] at hx'
    obtain ⟨h1, h2⟩ := hfr k hk
    obtain ⟨b1, b2, b3, b4⟩ := hbd k hk
    obtain ⟨b5, b6, b7, b8⟩ := hbd i hi
    have z1 : A k * B i ≤ 800 * 800 := Int.mul_le_mul b2 b8 b7 (by omega)
    have z2 : 0 ≤ A k * B i := Int.mul_nonneg b1 b7
    have z3 : A i * B k ≤ 800 * 800 := Int.mul_le_mul b6 b4 b3 (by omega)
    have z4 : 0 ≤ A i * B k := Int.mul_nonneg b5 b3
    (repeat' (first | ((first | ((with_reducible show LCg.CompSrc _ _ _ _ _ _ _ _ _ _ _ _ _ _); walk_at "CompSrc"; walk_say "LC src") | ((with_reducible show LCg.CompEnd _ _ _ _ _ _ _ _ _ _ _ _ _ _); walk_at "CompEnd"; walk_say "LC end") | ((with_reducible show LCg.FinE _ _ _ _ _ _ _); walk_at "FinE"; walk_say "LC fin") | ((with_reducible show LCg.FinA _ _ _ _ _ _ _ _); walk_at "FinA"; walk_say "LC finA"))) | (k_unfold; (try dsimp only)) | (k_end; wrow_close) | (dsimp only; (fail_if_success (with_reducible show wpAny _ _ (pyIter _) _ _ _)); (fail_if_success (with_reducible show wpAny _ _ (call (Value.ref _) _) _ _ _)); walk1) | ((fail_if_success (with_reducible show wpAny _ _ (pyIter _) _ _ _)); (fail_if_success (with_reducible show wpAny _ _ (call (Value.ref _) _) _ _ _)); walk1)))
    refine item_mem (by k_asm) (by iterate 3 refine List.mem_cons_of_mem _ ?_
                                   exact List.mem_cons_self) (by omega) (by omega) (by rw [Int.toNat_natCast]; exact h1) ?_
    (repeat' (first | ((first | ((with_reducible show LCg.CompSrc _ _ _ _ _ _ _ _ _ _ _ _ _ _); walk_at "CompSrc"; walk_say "LC src") | ((with_reducible show LCg.CompEnd _ _ _ _ _ _ _ _ _ _ _ _ _ _); walk_at "CompEnd"; walk_say "LC end") | ((with_reducible show LCg.FinE _ _ _ _ _ _ _); walk_at "FinE"; walk_say "LC fin") | ((with_reducible show LCg.FinA _ _ _ _ _ _ _ _); walk_at "FinA"; walk_say "LC finA"))) | (k_unfold; (try dsimp only)) | (k_end; wrow_close) | (dsimp only; (fail_if_success (with_reducible show wpAny _ _ (pyIter _) _ _ _)); (fail_if_success (with_reducible show wpAny _ _ (call (Value.ref _) _) _ _ _)); walk1) | ((fail_if_success (with_reducible show wpAny _ _ (pyIter _) _ _ _)); (fail_if_success (with_reducible show wpAny _ _ (call (Value.ref _) _) _ _ _)); walk1)))
    refine tup_at (by k_asm) (by iterate 7 refine List.mem_cons_of_mem _ ?_
                                 exact h2) (.inl ⟨rfl, rfl⟩) ?_
    (repeat' (first | ((first | ((with_reducible show LCg.CompSrc _ _ _ _ _ _ _ _ _ _ _ _ _ _); walk_at "CompSrc"; walk_say "LC src") | ((with_reducible show LCg.CompEnd _ _ _ _ _ _ _ _ _ _ _ _ _ _); walk_at "CompEnd"; walk_say "LC end") | ((with_reducible show LCg.FinE _ _ _ _ _ _ _); walk_at "FinE"; walk_say "LC fin") | ((with_reducible show LCg.FinA _ _ _ _ _ _ _ _); walk_at "FinA"; walk_say "LC finA"))) | (k_unfold; (try dsimp only)) | (k_end; wrow_close) | (dsimp only; (fail_if_success (with_reducible show wpAny _ _ (pyIter _) _ _ _)); (fail_if_success (with_reducible show wpAny _ _ (call (Value.ref _) _) _ _ _)); walk1) | ((fail_if_success (with_reducible show wpAny _ _ (pyIter _) _ _ _)); (fail_if_success (with_reducible show wpAny _ _ (call (Value.ref _) _) _ _ _)); walk1)))
    refine item_mem (by k_asm) (by iterate 3 refine List.mem_cons_of_mem _ ?_
                                   exact List.mem_cons_self) (by omega) (by omega) (by rw [Int.toNat_natCast]; exact h1) ?_
    (repeat' (first | ((first | ((with_reducible show LCg.CompSrc _ _ _ _ _ _ _ _ _ _ _ _ _ _); walk_at "CompSrc"; walk_say "LC src") | ((with_reducible show LCg.CompEnd _ _ _ _ _ _ _ _ _ _ _ _ _ _); walk_at "CompEnd"; walk_say "LC end") | ((with_reducible show LCg.FinE _ _ _ _ _ _ _); walk_at "FinE"; walk_say "LC fin") | ((with_reducible show LCg.FinA _ _ _ _ _ _ _ _); walk_at "FinA"; walk_say "LC finA"))) | (k_unfold; (try dsimp only)) | (k_end; wrow_close) | (dsimp only; (fail_if_success (with_reducible show wpAny _ _ (pyIter _) _ _ _)); (fail_if_success (with_reducible show wpAny _ _ (call (Value.ref _) _) _ _ _)); walk1) | ((fail_if_success (with_reducible show wpAny _ _ (pyIter _) _ _ _)); (fail_if_success (with_reducible show wpAny _ _ (call (Value.ref _) _) _ _ _)); walk1)))
    refine tup_at (by k_asm) (by iterate 7 refine List.mem_cons_of_mem _ ?_
                                 exact h2) (.inr ⟨rfl, rfl⟩) ?_
    (repeat' (first | ((first | ((with_reducible show LCg.CompSrc _ _ _ _ _ _ _ _ _ _ _ _ _ _); walk_at "CompSrc"; walk_say "LC src") | ((with_reducible show LCg.CompEnd _ _ _ _ _ _ _ _ _ _ _ _ _ _); walk_at "CompEnd"; walk_say "LC end") | ((with_reducible show LCg.FinE _ _ _ _ _ _ _); walk_at "FinE"; walk_say "LC fin") | ((with_reducible show LCg.FinA _ _ _ _ _ _ _ _); walk_at "FinA"; walk_say "LC finA"))) | (k_unfold; (try dsimp only)) | (k_end; wrow_close) | (dsimp only; (fail_if_success (with_reducible show wpAny _ _ (pyIter _) _ _ _)); (fail_if_success (with_reducible show wpAny _ _ (call (Value.ref _) _) _ _ _)); walk1) | ((fail_if_success (with_reducible show wpAny _ _ (pyIter _) _ _ _)); (fail_if_success (with_reducible show wpAny _ _ (call (Value.ref _) _) _ _ _)); walk1)))
    all_goals assumption
  · intro ys hf D h tk F' N' o1
    refine hret D ys h tk (filt_ints hf) F' N' o1
theorem filt_countL {El : Nat → Value → Prop} {No : Nat → Prop} {js : List Int} {p : Int → Prop} [DecidablePred p] {n : Nat} {ys : List Value} (h : Filt El No n ys) (hn : n ≤ js.length) (h1 : ∀ k y, El k y → ∃ j, js[k]? = some j ∧ p j) (h2 : ∀ k, No k → ∃ j, js[k]? = some j ∧ ¬ p j) :
    ys.length = ((js.take n).filter fun j => decide (p j)).length := by
  induction h with
  | zero => rfl
  | @yes i ys y _ hy ih =>
    obtain ⟨j, e, hp⟩ := h1 i y hy
    rw [List.take_add_one, e, List.filter_append, List.length_append, List.length_append, ih (by omega)]
    simp [hp]
  | @no i ys _ hno ih =>
    obtain ⟨j, e, hp⟩ := h2 i hno
    rw [List.take_add_one, e, List.filter_append, List.length_append, ih (by omega)]
    simp [hp]
theorem law_cond1 {w : World} {mean : ExcName → Option Value} {mg mb : Str → Option Value} {st : Stmt} (hst : placeBody[3]? = some st) {sc : Scope} (hsc : lawScope[0]? = some sc) {L fa O K : Addr} {h₀ : Heap} {m : Str → Option Value} {s : Shared}
    {Q : Flow → Shared → Prop} {E : Value → Shared → Prop} {os ys : List Value} {oi : Nat → Nat} {to : Nat → Tok} {js : List Int} {i ln : Nat} {tl ti : Tok} {oP : Obj} (rest : List (Addr × Obj)) (F : Fr h₀ L s.heap m) (X : (hd.heap_1 w.params).In h₀)
    (N : News h₀ L s.heap ((K, LCg.lst ys) :: (O, LCg.lst os) :: (L + 5, oP) :: rest)) (T : Top topProg LZ mean mg mb h₀)
    (hO : m "order" = some (.ref O)) (hK : m "like" = some (.ref K)) (hl : m "less" = some (.int (ln : Nat) tl)) (dP : oP.data = .cell (some (.int (i : Nat) ti)))
    (hys : IntsAre ys js) (hjl : js.length ≤ 7) (hos : ∀ k, k < 7 → os[k]? = some (.int (oi k : Nat) (to k))) (hi : i < 7) (hjb : ∀ j ∈ js, 0 ≤ j ∧ j < 7)
    (hlt : ln + (js.filter fun j => decide ((i : Int) < j)).length < 7) (hval : oi (ln + (js.filter fun j => decide ((i : Int) < j)).length) = i)
    (hret : ∀ h' tk', Fr h₀ L h' m → News h₀ L h' ((K, LCg.lst ys) :: (O, LCg.lst os) :: (L + 5, oP) :: rest) → Q .next { s with heap := h', toks := tk' }) :
    wpAny (model PG w) (callerA.deeper (envOfC "law" sc L fa (.ref 141))) (exec st (envOfC "law" sc L fa (.ref 141))) Q E s := by
  obtain rfl : st = _ := Option.some.inj (hst.symm.trans (by with_unfolding_all rfl))
  obtain rfl : sc = _ := Option.some.inj (hsc.symm.trans (by with_unfolding_all rfl))
  clear hst hsc
  have F2 := fr_at (fr_at (fr_at F hO) (x := Str.ofString "like") (v := some (.ref K)) ((if_neg (by decide)).trans hK)) (x := Str.ofString "less") (v := some (.int (ln : Nat) tl)) ((if_neg (by decide)).trans ((if_neg (by decide)).trans hl))
  clear F
  iterate 10 (first | walk1 | (dsimp only; walk1))
  have hyl := hys.length
  refine' LCt.ListComp_T (F₀ := F2) (by with_unfolding_all rfl) (by decide) (by rfl) (by decide) (by rfl) ?_ ?hs
  (case hs => intro _; rfl)
  iterate 1 (first | walk1 | (dsimp only; walk1))
  refine LCt.CompSrcT.ledger (its := ys.toArray) (k := ys.length) (by rfl) (by k_asm) (by k_asm) List.mem_cons_self (by rw [List.size_toArray, sizeLine_eq]; omega) ?_
  intro g
  refine rest_F (fun k y => ∃ j t, js[k]? = some j ∧ y = Value.int j t ∧ (i : Int) < j) (fun k => ∃ j, js[k]? = some j ∧ ¬ (i : Int) < j) ?_ ?_
  · intro k v I oI C oC D m2 zs h tk E' hk hv hC' hx' F' N' off' ne'
    rw [List.getElem?_toArray] at hv
    obtain ⟨j, t9, rfl, hjk⟩ := IntsAre.at hys k v hv
    obtain ⟨hj0, hj7⟩ := hjb j (List.mem_of_getElem? hjk)
    (repeat' (first | ((first | ((with_reducible show LCg.CompSrc _ _ _ _ _ _ _ _ _ _ _ _ _ _); walk_at "CompSrc"; walk_say "LC src") | ((with_reducible show LCg.CompEnd _ _ _ _ _ _ _ _ _ _ _ _ _ _); walk_at "CompEnd"; walk_say "LC end") | ((with_reducible show LCg.FinE _ _ _ _ _ _ _); walk_at "FinE"; walk_say "LC fin") | ((with_reducible show LCg.FinA _ _ _ _ _ _ _ _); walk_at "FinA"; walk_say "LC finA"))) | (k_unfold; (try dsimp only)) | (k_end; wrow_close) | (dsimp only; (fail_if_success (with_reducible show wpAny _ _ (pyIter _) _ _ _)); (fail_if_success (with_reducible show wpAny _ _ (call (Value.ref _) _) _ _ _)); walk1) | ((fail_if_success (with_reducible show wpAny _ _ (pyIter _) _ _ _)); (fail_if_success (with_reducible show wpAny _ _ (call (Value.ref _) _) _ _ _)); walk1)))
    all_goals first | assumption | exact ⟨j, hjk, by assumption⟩
  · intro zs hf D h tk F' N' o1
    rw [List.size_toArray] at hf
    have hc := filt_countL (js := js) (p := fun j => (i : Int) < j) hf (Nat.le_of_eq hyl) (fun k y h => by obtain ⟨j, _, h1, _, h3⟩ := h; exact ⟨j, h1, h3⟩) (fun k h => h)
    rw [List.take_of_length_le (Nat.le_of_eq hyl.symm)] at hc
    have hzl := hf.len
    rw [← hc] at hlt hval
    iterate 1 (first | walk1 | (dsimp only; walk1))
    refine kst_len N' List.mem_cons_self rfl (by omega) ?_
    (repeat' (first | ((first | ((with_reducible show LCg.CompSrc _ _ _ _ _ _ _ _ _ _ _ _ _ _); walk_at "CompSrc"; walk_say "LC src") | ((with_reducible show LCg.CompEnd _ _ _ _ _ _ _ _ _ _ _ _ _ _); walk_at "CompEnd"; walk_say "LC end") | ((with_reducible show LCg.FinE _ _ _ _ _ _ _); walk_at "FinE"; walk_say "LC fin") | ((with_reducible show LCg.FinA _ _ _ _ _ _ _ _); walk_at "FinA"; walk_say "LC finA"))) | (k_unfold; (try dsimp only)) | (k_end; wrow_close) | (dsimp only; (fail_if_success (with_reducible show wpAny _ _ (pyIter _) _ _ _)); (fail_if_success (with_reducible show wpAny _ _ (call (Value.ref _) _) _ _ _)); walk1) | ((fail_if_success (with_reducible show wpAny _ _ (pyIter _) _ _ _)); (fail_if_success (with_reducible show wpAny _ _ (call (Value.ref _) _) _ _ _)); walk1)))
    refine item_mem (by k_asm) (List.mem_cons_of_mem _ (List.mem_cons_of_mem _ List.mem_cons_self)) (by omega) (by omega) (by rw [show ((ln : Int) + (zs.length : Nat)).toNat = ln + zs.length by omega]; exact hos _ hlt) ?_
    rw [hval]
    (repeat' (first | ((first | ((with_reducible show LCg.CompSrc _ _ _ _ _ _ _ _ _ _ _ _ _ _); walk_at "CompSrc"; walk_say "LC src") | ((with_reducible show LCg.CompEnd _ _ _ _ _ _ _ _ _ _ _ _ _ _); walk_at "CompEnd"; walk_say "LC end") | ((with_reducible show LCg.FinE _ _ _ _ _ _ _); walk_at "FinE"; walk_say "LC fin") | ((with_reducible show LCg.FinA _ _ _ _ _ _ _ _); walk_at "FinA"; walk_say "LC finA"))) | (k_unfold; (try dsimp only)) | (k_end; wrow_close) | (dsimp only; (fail_if_success (with_reducible show wpAny _ _ (pyIter _) _ _ _)); (fail_if_success (with_reducible show wpAny _ _ (call (Value.ref _) _) _ _ _)); walk1) | ((fail_if_success (with_reducible show wpAny _ _ (pyIter _) _ _ _)); (fail_if_success (with_reducible show wpAny _ _ (call (Value.ref _) _) _ _ _)); walk1)))
    · exfalso
      first | omega | contradiction | simp_all
    · (with_reducible rename Fr _ _ _ _ => F9)
      (with_reducible rename News _ _ _ _ => N9)
      simp only [at_fr hO, at_fr hK, at_fr hl] at F9
      exact hret _ _ F9 (news_sub N9 fun p hp => List.mem_cons_of_mem _ hp)
theorem str_beq {x y : Str} (h : (x == y) = true) : x = y := eq_of_beq h
theorem str_bne {x y : Str} (h : (x == y) = false) : ¬ x = y := fun e => by rw [e, beq_self_eq_true] at h; cases h
theorem law_cond2 {w : World} {mean : ExcName → Option Value} {mg mb : Str → Option Value} {st : Stmt} (hst : placeBody[4]? = some st) {sc : Scope} (hsc : lawScope[0]? = some sc) {L fa D K : Addr} {h₀ : Heap} {m : Str → Option Value} {s : Shared}
    {Q : Flow → Shared → Prop} {E : Value → Shared → Prop} {ds ys : List Value} {dr : Nat → Str} {td : Nat → Tok} {i : Nat} {ti : Tok} {oP oD : Obj} (rest : List (Addr × Obj)) (F : Fr h₀ L s.heap m) (X : (hd.heap_1 w.params).In h₀)
    (N : News h₀ L s.heap ((K, LCg.lst ys) :: (D, LCg.lst ds) :: (L + 3, oD) :: (L + 5, oP) :: rest)) (T : Top topProg LZ mean mg mb h₀)
    (hK : m "like" = some (.ref K)) (dP : oP.data = .cell (some (.int (i : Nat) ti))) (dD : oD.data = .cell (some (.ref D)))
    (hds : ∀ k, k < 7 → ds[k]? = some (.str (dr k) (td k))) (hi : i < 7) (hys : IntsAre ys (((List.range 7).filter fun k => decide (dr k = dr i)).map Int.ofNat))
    (hret : ∀ h' tk', Fr h₀ L h' m → News h₀ L h' ((K, LCg.lst ys) :: (D, LCg.lst ds) :: (L + 3, oD) :: (L + 5, oP) :: rest) → Q .next { s with heap := h', toks := tk' }) :
    wpAny (model PG w) (callerA.deeper (envOfC "law" sc L fa (.ref 141))) (exec st (envOfC "law" sc L fa (.ref 141))) Q E s := by
  obtain rfl : st = _ := Option.some.inj (hst.symm.trans (by with_unfolding_all rfl))
  obtain rfl : sc = _ := Option.some.inj (hsc.symm.trans (by with_unfolding_all rfl))
  clear hst hsc
  have F2 := fr_at F hK
  clear F
  have h2 := hds i hi
  iterate 2 (first | walk1 | (dsimp only; walk1))
  refine' LCt.ListComp_T (F₀ := F2) (by with_unfolding_all rfl) (by decide) (by rfl) (by decide) (by rfl) ?_ ?hs
  (case hs => intro _; rfl)
  iterate 7 (first | walk1 | (dsimp only; walk1))
  (with_reducible rename Fr _ _ _ _ => F9)
  (with_reducible rename News _ _ _ _ => N9)
  refine LCt.CompSrcT.range (n := 7) (by rfl) F9 N9 (by assumption) (by decide) (by decide) (Nat.le_of_ble_eq_true rfl) ?_
  intro g
  refine rest_F (fun k y => ∃ t, y = Value.int (k : Nat) t ∧ dr k = dr i) (fun k => ¬ dr k = dr i) ?_ ?_
  · rintro k v I oI C oC D m2 zs h tk E' hk ⟨t9, rfl⟩ hC' hx' F' N' off' ne'
    rw [Int.zero_add] at hx'
    have h1 := hds k hk
    (repeat' (first | ((first | ((with_reducible show LCg.CompSrc _ _ _ _ _ _ _ _ _ _ _ _ _ _); walk_at "CompSrc"; walk_say "LC src") | ((with_reducible show LCg.CompEnd _ _ _ _ _ _ _ _ _ _ _ _ _ _); walk_at "CompEnd"; walk_say "LC end") | ((with_reducible show LCg.FinE _ _ _ _ _ _ _); walk_at "FinE"; walk_say "LC fin") | ((with_reducible show LCg.FinA _ _ _ _ _ _ _ _); walk_at "FinA"; walk_say "LC finA"))) | (k_unfold; (try dsimp only)) | (k_end; wrow_close) | (dsimp only; (fail_if_success (with_reducible show wpAny _ _ (pyIter _) _ _ _)); (fail_if_success (with_reducible show wpAny _ _ (call (Value.ref _) _) _ _ _)); walk1) | ((fail_if_success (with_reducible show wpAny _ _ (pyIter _) _ _ _)); (fail_if_success (with_reducible show wpAny _ _ (call (Value.ref _) _) _ _ _)); walk1)))
    refine item_mem (by k_asm) (by k_mem) (by omega) (by omega) (by rw [Int.toNat_natCast]; exact h1) ?_
    (repeat' (first | ((first | ((with_reducible show LCg.CompSrc _ _ _ _ _ _ _ _ _ _ _ _ _ _); walk_at "CompSrc"; walk_say "LC src") | ((with_reducible show LCg.CompEnd _ _ _ _ _ _ _ _ _ _ _ _ _ _); walk_at "CompEnd"; walk_say "LC end") | ((with_reducible show LCg.FinE _ _ _ _ _ _ _); walk_at "FinE"; walk_say "LC fin") | ((with_reducible show LCg.FinA _ _ _ _ _ _ _ _); walk_at "FinA"; walk_say "LC finA"))) | (k_unfold; (try dsimp only)) | (k_end; wrow_close) | (dsimp only; (fail_if_success (with_reducible show wpAny _ _ (pyIter _) _ _ _)); (fail_if_success (with_reducible show wpAny _ _ (call (Value.ref _) _) _ _ _)); walk1) | ((fail_if_success (with_reducible show wpAny _ _ (pyIter _) _ _ _)); (fail_if_success (with_reducible show wpAny _ _ (call (Value.ref _) _) _ _ _)); walk1)))
    refine item_mem (by k_asm) (by k_mem) (by omega) (by omega) (by rw [Int.toNat_natCast]; exact h2) ?_
    (repeat' (first | ((first | ((with_reducible show LCg.CompSrc _ _ _ _ _ _ _ _ _ _ _ _ _ _); walk_at "CompSrc"; walk_say "LC src") | ((with_reducible show LCg.CompEnd _ _ _ _ _ _ _ _ _ _ _ _ _ _); walk_at "CompEnd"; walk_say "LC end") | ((with_reducible show LCg.FinE _ _ _ _ _ _ _); walk_at "FinE"; walk_say "LC fin") | ((with_reducible show LCg.FinA _ _ _ _ _ _ _ _); walk_at "FinA"; walk_say "LC finA"))) | (k_unfold; (try dsimp only)) | (k_end; wrow_close) | (dsimp only; (fail_if_success (with_reducible show wpAny _ _ (pyIter _) _ _ _)); (fail_if_success (with_reducible show wpAny _ _ (call (Value.ref _) _) _ _ _)); walk1) | ((fail_if_success (with_reducible show wpAny _ _ (pyIter _) _ _ _)); (fail_if_success (with_reducible show wpAny _ _ (call (Value.ref _) _) _ _ _)); walk1)))
    · exact str_beq (by assumption)
    · exact str_bne (by assumption)
  · intro zs hf D h tk F' N' o1
    have hz := filt_ints hf
    iterate 1 (first | walk1 | (dsimp only; walk1))
    have lD : h.IsList D zs.toArray := ⟨_, (N' _ List.mem_cons_self).1, rfl, _, rfl⟩
    have lK : h.IsList K ys.toArray := ⟨_, (N' (K, LCg.lst ys) (by simp)).1, rfl, _, rfl⟩
    refine ke_ne_ints lD lK hz hys (by ke_room) ?_
    simp only [decide_true, Bool.not_true]
    (repeat' (first | ((first | ((with_reducible show LCg.CompSrc _ _ _ _ _ _ _ _ _ _ _ _ _ _); walk_at "CompSrc"; walk_say "LC src") | ((with_reducible show LCg.CompEnd _ _ _ _ _ _ _ _ _ _ _ _ _ _); walk_at "CompEnd"; walk_say "LC end") | ((with_reducible show LCg.FinE _ _ _ _ _ _ _); walk_at "FinE"; walk_say "LC fin") | ((with_reducible show LCg.FinA _ _ _ _ _ _ _ _); walk_at "FinA"; walk_say "LC finA"))) | (k_unfold; (try dsimp only)) | (k_end; wrow_close) | (dsimp only; (fail_if_success (with_reducible show wpAny _ _ (pyIter _) _ _ _)); (fail_if_success (with_reducible show wpAny _ _ (call (Value.ref _) _) _ _ _)); walk1) | ((fail_if_success (with_reducible show wpAny _ _ (pyIter _) _ _ _)); (fail_if_success (with_reducible show wpAny _ _ (call (Value.ref _) _) _ _ _)); walk1)))
    (with_reducible rename Fr _ _ _ _ => F9)
    (with_reducible rename News _ _ _ _ => N9)
    simp only [at_fr hK] at F9
    exact hret _ _ F9 (news_sub N9 fun p hp => List.mem_cons_of_mem _ hp)
theorem law_cond3 {w : World} {mean : ExcName → Option Value} {mg mb : Str → Option Value} {st : Stmt} (hst : placeBody[5]? = some st) {sc : Scope} (hsc : lawScope[0]? = some sc) {L fa W O K : Addr} {h₀ base : Heap} {m : Str → Option Value} {s : Shared}
    {Q : Flow → Shared → Prop} {E : Value → Shared → Prop} {rs os ys : List Value} {rb : Nat → Array UInt8} {tb : Nat → Tok} {oi : Nat → Nat} {to : Nat → Tok} {fs : Str} {tF : Tok} {js : List Int} {i ln : Nat} {ti tl : Tok} {oP oF : Obj} (tab rest : List (Addr × Obj)) (K₀ : Below callerA base [] h₀) (F : Fr h₀ L s.heap m) (X : (hd.heap_1 w.params).In h₀)
    (N : News h₀ L s.heap ((W, LCg.lst rs) :: (O, LCg.lst os) :: (tab ++ (K, LCg.lst ys) :: (L + 5, oP) :: (L + 2, oF) :: rest))) (T : Top topProg LZ mean mg mb h₀) (hC : CodeHd base 129 125)
    (hW : m "rows" = some (.ref W)) (hO : m "order" = some (.ref O)) (hK : m "like" = some (.ref K)) (hl : m "less" = some (.int (ln : Nat) tl)) (dP : oP.data = .cell (some (.int (i : Nat) ti))) (dF : oF.data = .cell (some (.str fs tF)))
    (hys : IntsAre ys js) (hi : i < 7) (hjl : js.length ≤ 7) (hll : ln ≤ 7) (hTab : TabSt tab)
    (hdis : ∀ p ∈ (K, LCg.lst ys) :: (L + 5, oP) :: (L + 2, oF) :: rest, p.1 ∉ ((W, LCg.lst rs) :: (O, LCg.lst os) :: tab).map (·.1))
    (h125r : @Ne Nat W 125) (h125o : @Ne Nat O 125) (hro : @Ne Nat W O)
    (hrs : ∀ k, k < 7 → rs[k]? = some (.bytes (rb k) (tb k)) ∧ (rb k).size = 7) (hos : ∀ i, i < 7 → os[i]? = some (.int (oi i : Nat) (to i)) ∧ oi i < 7) (hol : os.length = 7)
    (hm1 : ∀ a c, a < c → c < 7 → cmpR fs (rb i) rb (oi c) < 0 → cmpR fs (rb i) rb (oi a) < 0)
    (hm2 : ∀ a c, a < c → c < 7 → ¬ 0 < cmpR fs (rb i) rb (oi c) → ¬ 0 < cmpR fs (rb i) rb (oi a))
    (hval : ∀ r1 r2, BndIn (fun a => cmpR fs (rb i) rb (oi a)) r1 r2 → r1 = ln ∧ r2 = ln + js.length)
    (hret : ∀ tab' h' tk', TabSt tab' → (∀ p ∈ tab', (∃ q ∈ tab, q.1 = p.1) ∨ (∀ q ∈ (K, LCg.lst ys) :: (L + 5, oP) :: (L + 2, oF) :: rest, @LT.lt Nat _ q.1 p.1) ∧ @LT.lt Nat _ W p.1 ∧ @LT.lt Nat _ O p.1) → Fr h₀ L h' m →
      News h₀ L h' ((W, LCg.lst rs) :: (O, LCg.lst os) :: (tab' ++ (K, LCg.lst ys) :: (L + 5, oP) :: (L + 2, oF) :: rest)) → Q .next { s with heap := h', toks := tk' }) :
    wpAny (model PG w) (callerA.deeper (envOfC "law" sc L fa (.ref 141))) (exec st (envOfC "law" sc L fa (.ref 141))) Q E s := by
  obtain rfl : st = _ := Option.some.inj (hst.symm.trans (by with_unfolding_all rfl))
  obtain rfl : sc = _ := Option.some.inj (hsc.symm.trans (by with_unfolding_all rfl))
  clear hst hsc
  have F2 := fr_at (fr_at (fr_at (fr_at F hO) (x := Str.ofString "like") (v := some (.ref K)) ((if_neg (by decide)).trans hK)) (x := Str.ofString "less") (v := some (.int (ln : Nat) tl)) ((if_neg (by decide)).trans ((if_neg (by decide)).trans hl)))
    (x := Str.ofString "rows") (v := some (.ref W)) ((if_neg (by decide)).trans ((if_neg (by decide)).trans ((if_neg (by decide)).trans hW)))
  clear F
  have N2 : News h₀ L s.heap ((W, LCg.lst rs) :: (O, LCg.lst os) :: (K, LCg.lst ys) :: (L + 5, oP) :: (L + 2, oF) :: (tab ++ rest)) := news_seg [[(W, LCg.lst rs)], [(O, LCg.lst os)], tab, [(K, LCg.lst ys)], [(L + 5, oP)], [(L + 2, oF)]] rest [0, 1, 3, 4, 5, 2] N
  obtain ⟨hr1, hr2⟩ := hrs i hi
  (repeat' (first | ((first | ((with_reducible show LCg.CompSrc _ _ _ _ _ _ _ _ _ _ _ _ _ _); walk_at "CompSrc"; walk_say "LC src") | ((with_reducible show LCg.CompEnd _ _ _ _ _ _ _ _ _ _ _ _ _ _); walk_at "CompEnd"; walk_say "LC end") | ((with_reducible show LCg.FinE _ _ _ _ _ _ _); walk_at "FinE"; walk_say "LC fin") | ((with_reducible show LCg.FinA _ _ _ _ _ _ _ _); walk_at "FinA"; walk_say "LC finA"))) | (k_unfold; (try dsimp only)) | (k_end; wrow_close) | (dsimp only; (fail_if_success (with_reducible show wpAny _ _ (pyIter _) _ _ _)); (fail_if_success (with_reducible show wpAny _ _ (call (Value.ref _) _) _ _ _)); walk1) | ((fail_if_success (with_reducible show wpAny _ _ (pyIter _) _ _ _)); (fail_if_success (with_reducible show wpAny _ _ (call (Value.ref _) _) _ _ _)); walk1)))
  refine item_mem (by k_asm) List.mem_cons_self (by omega) (by omega) (by rw [Int.toNat_natCast]; exact hr1) ?_
  (repeat' (first | ((first | ((with_reducible show LCg.CompSrc _ _ _ _ _ _ _ _ _ _ _ _ _ _); walk_at "CompSrc"; walk_say "LC src") | ((with_reducible show LCg.CompEnd _ _ _ _ _ _ _ _ _ _ _ _ _ _); walk_at "CompEnd"; walk_say "LC end") | ((with_reducible show LCg.FinE _ _ _ _ _ _ _); walk_at "FinE"; walk_say "LC fin") | ((with_reducible show LCg.FinA _ _ _ _ _ _ _ _); walk_at "FinA"; walk_say "LC finA"))) | (k_unfold; (try dsimp only)) | (k_end; wrow_close) | (dsimp only; (fail_if_success (with_reducible show wpAny _ _ (pyIter _) _ _ _)); (fail_if_success (with_reducible show wpAny _ _ (call (Value.ref _) _) _ _ _)); walk1) | ((fail_if_success (with_reducible show wpAny _ _ (pyIter _) _ _ _)); (fail_if_success (with_reducible show wpAny _ _ (call (Value.ref _) _) _ _ _)); walk1)))
  (with_reducible rename Fr _ _ _ _ => F3)
  k_dflt (refine' bounds_T ((K, LCg.lst ys) :: (L + 5, oP) :: (L + 2, oF) :: rest) tab hTab W O rs os rs.length os.length (rb i) fs _ _ _ _ _ _ _ _ _ _ _ _ _ _ _ _ _ _ _ ?cB F3 ?cX (news_sub N ?cN) (news_sub N ?cR) hdis ?cT ?cK hC hr2 h125r h125o hro rb tb oi to hrs hos hol hm1 hm2 ?cD ?cU ?_)
  (case cB => k_asm)
  (case cX => k_asm)
  (case cT => k_asm)
  (case cK => first | exact rfl | assumption)
  (case cD => ktr_room)
  (case cU => ktr_units)
  (case cN =>
    exact fun p hp => List.mem_append_left (as := (W, LCg.lst rs) :: (O, LCg.lst os) :: tab) _ hp)
  (case cR =>
    intro p hp
    exact List.mem_cons_of_mem _ (List.mem_cons_of_mem _ (List.mem_append_right _ hp)))
  intro R9 r1 r2 t1 t2 tab' h9 tk9 hB hT9 hd9 hR9 hR9' hWR hOR F9 N9
  obtain ⟨rfl, rfl⟩ := hval r1 r2 hB
  try dsimp only
  have hyl := hys.length
  have N8 : News h₀ L h9 ((R9, tup2 (r1 : Nat) t1 ((r1 + js.length : Nat) : Int) t2) :: (W, LCg.lst rs) :: (O, LCg.lst os) :: (K, LCg.lst ys) :: (L + 5, oP) :: (L + 2, oF) :: (tab' ++ rest)) := news_seg [[(R9, tup2 (r1 : Nat) t1 ((r1 + js.length : Nat) : Int) t2)], [(W, LCg.lst rs)], [(O, LCg.lst os)], tab', [(K, LCg.lst ys)], [(L + 5, oP)], [(L + 2, oF)]] rest [0, 1, 2, 4, 5, 6, 3] N9
  clear N
  have N7 := N9
  clear N9
  (repeat' (first | ((first | ((with_reducible show LCg.CompSrc _ _ _ _ _ _ _ _ _ _ _ _ _ _); walk_at "CompSrc"; walk_say "LC src") | ((with_reducible show LCg.CompEnd _ _ _ _ _ _ _ _ _ _ _ _ _ _); walk_at "CompEnd"; walk_say "LC end") | ((with_reducible show LCg.FinE _ _ _ _ _ _ _); walk_at "FinE"; walk_say "LC fin") | ((with_reducible show LCg.FinA _ _ _ _ _ _ _ _); walk_at "FinA"; walk_say "LC finA"))) | (k_unfold; (try dsimp only)) | (k_end; wrow_close) | (dsimp only; (fail_if_success (with_reducible show wpAny _ _ (pyIter _) _ _ _)); (fail_if_success (with_reducible show wpAny _ _ (call (Value.ref _) _) _ _ _)); walk1) | ((fail_if_success (with_reducible show wpAny _ _ (pyIter _) _ _ _)); (fail_if_success (with_reducible show wpAny _ _ (call (Value.ref _) _) _ _ _)); walk1)))
  refine kst_len N8 (by iterate 3 refine List.mem_cons_of_mem _ ?_
                        exact List.mem_cons_self) rfl (by omega) ?_
  rw [hyl]
  clear N7
  (repeat' (first | ((first | ((with_reducible show LCg.CompSrc _ _ _ _ _ _ _ _ _ _ _ _ _ _); walk_at "CompSrc"; walk_say "LC src") | ((with_reducible show LCg.CompEnd _ _ _ _ _ _ _ _ _ _ _ _ _ _); walk_at "CompEnd"; walk_say "LC end") | ((with_reducible show LCg.FinE _ _ _ _ _ _ _); walk_at "FinE"; walk_say "LC fin") | ((with_reducible show LCg.FinA _ _ _ _ _ _ _ _); walk_at "FinA"; walk_say "LC finA"))) | (k_unfold; (try dsimp only)) | (k_end; wrow_close) | (dsimp only; (fail_if_success (with_reducible show wpAny _ _ (pyIter _) _ _ _)); (fail_if_success (with_reducible show wpAny _ _ (call (Value.ref _) _) _ _ _)); walk1) | ((fail_if_success (with_reducible show wpAny _ _ (pyIter _) _ _ _)); (fail_if_success (with_reducible show wpAny _ _ (call (Value.ref _) _) _ _ _)); walk1)))
  · (with_reducible rename Fr _ _ _ _ => F9)
    (with_reducible rename News _ _ _ _ => N9)
    simp only [at_fr hO, at_fr hK, at_fr hl, at_fr hW] at F9
    exact hret tab' _ _ hT9 hd9 F9 (news_seg [[(R9, tup2 (r1 : Nat) t1 ((r1 + js.length : Nat) : Int) t2)], [(W, LCg.lst rs)], [(O, LCg.lst os)], [(K, LCg.lst ys)], [(L + 5, oP)], [(L + 2, oF)], tab'] rest [1, 2, 6, 3, 4, 5] (news_sub N9 fun p hp => List.mem_cons_of_mem _ hp))
  · exfalso
    first | omega | simp_all
/-- the number of lower fractions, and the places of the like ones -/
abbrev lnF (A B : Nat → Int) (i : Nat) : Nat := ((List.range 7).filter fun k => decide (A k * B i < A i * B k)).length
abbrev lkF (A B : Nat → Int) (i : Nat) : List Nat := (List.range 7).filter fun k => decide (A k * B i = A i * B k)
/-- what the law asks of the place i -/
def PlaceOk (fs : Str) (A B : Nat → Int) (dr : Nat → Str) (rb : Nat → Array UInt8) (oi : Nat → Nat) (i : Nat) : Prop :=
  lnF A B i + (((lkF A B i).map Int.ofNat).filter fun j => decide ((i : Int) < j)).length < 7 ∧ oi (lnF A B i + (((lkF A B i).map Int.ofNat).filter fun j => decide ((i : Int) < j)).length) = i ∧
  (∀ k, k < 7 → (dr k = dr i ↔ A k * B i = A i * B k)) ∧
  (∀ a c, a < c → c < 7 → cmpR fs (rb i) rb (oi c) < 0 → cmpR fs (rb i) rb (oi a) < 0) ∧ (∀ a c, a < c → c < 7 → ¬ 0 < cmpR fs (rb i) rb (oi c) → ¬ 0 < cmpR fs (rb i) rb (oi a)) ∧
  ∀ r1 r2, BndIn (fun a => cmpR fs (rb i) rb (oi a)) r1 r2 → r1 = lnF A B i ∧ r2 = lnF A B i + (lkF A B i).length
theorem lkF_len (A B : Nat → Int) (i : Nat) : (lkF A B i).length ≤ 7 := by
  have := List.length_filter_le (fun k => decide (A k * B i = A i * B k)) (List.range 7)
  simpa using this
theorem lnF_le (A B : Nat → Int) (i : Nat) : lnF A B i ≤ 7 := by
  have := List.length_filter_le (fun k => decide (A k * B i < A i * B k)) (List.range 7)
  simpa using this
theorem lk_dr {A B : Nat → Int} {dr : Nat → Str} {i : Nat} (h : ∀ k, k < 7 → (dr k = dr i ↔ A k * B i = A i * B k)) : (List.range 7).filter (fun k => decide (dr k = dr i)) = lkF A B i := by
  refine List.filter_congr fun k hk => ?_
  simp only [h k (List.mem_range.mp hk)]
/-- the notes on the lambdas lie apart from all else -/
def TabOff (L W O : Addr) (R tab : List (Addr × Obj)) : Prop := ∀ p ∈ tab, @Ne Nat p.1 (L + 5) ∧ @Ne Nat p.1 (L + 6) ∧ @Ne Nat p.1 (L + 7) ∧ @Ne Nat p.1 W ∧ @Ne Nat p.1 O ∧ ∀ q ∈ R, @Ne Nat p.1 q.1
theorem map_ll {m : Str → Option Value} {a b c d : Option Value} : (fun (y : Str) => if y = "like" then a else (fun (y : Str) => if y = "less" then b else (fun (y : Str) => if y = "like" then c else if y = "less" then d else m y) y) y) = fun (y : Str) => if y = "like" then a else if y = "less" then b else m y := by
  funext y
  by_cases h1 : y = "like"
  · simp only [if_pos h1]
  · simp only [if_neg h1]
    by_cases h2 : y = "less"
    · simp only [if_pos h2]
    · simp only [if_neg h2]
theorem law_place {w : World} {mean : ExcName → Option Value} {mg mb : Str → Option Value} {st : Stmt} (hst : lawBody[12]? = some st) {sc : Scope} (hsc : lawScope[0]? = some sc) {L fa V W O D : Addr} {h₀ base : Heap} {m : Str → Option Value} {s : Shared}
    {Q : Flow → Shared → Prop} {E : Value → Shared → Prop} {fv ds rs os : List Value} {dv : Nat → Addr} {A B : Nat → Int} {ua ub td tb to : Nat → Tok} {dr : Nat → Str} {rb : Nat → Array UInt8} {oi : Nat → Nat} {fs : Str} {tF : Tok} {oX oP oA oB oD oF : Obj} (rest : List (Addr × Obj))
    (K : Below callerA base [] h₀) (hC : CodeHd base 129 125) (F : Fr h₀ L s.heap m) (X : (hd.heap_1 w.params).In h₀)
    (N : News h₀ L s.heap ((L + 5, oP) :: (L + 6, oA) :: (L + 7, oB) :: (W, LCg.lst rs) :: (O, LCg.lst os) :: ([(125, tabObj #[])] ++ (V, LCg.lst fv) :: (L + 4, oX) :: (D, LCg.lst ds) :: (L + 3, oD) :: (L + 2, oF) :: rest))) (T : Top topProg LZ mean mg mb h₀)
    (hE : PassesOwn (model PG w) (callerA.deeper (envOfC "law" sc L fa (.ref 141))) (envOfC "law" sc L fa (.ref 141)) E)
    (hW : m "rows" = some (.ref W)) (hO : m "order" = some (.ref O)) (dX : oX.data = .cell (some (.ref V))) (dD : oD.data = .cell (some (.ref D))) (dF : oF.data = .cell (some (.str fs tF)))
    (dP : oP.data = .cell none) (dA : oA.data = .cell none) (dB : oB.data = .cell none)
    (hfl : fv.length = 7) (hfr : ∀ k, k < 7 → fv[k]? = some (.ref (dv k)) ∧ (dv k, tupI (A k) (ua k) (B k) (ub k)) ∈ rest) (hds : ∀ k, k < 7 → ds[k]? = some (.str (dr k) (td k)))
    (hrs : ∀ k, k < 7 → rs[k]? = some (.bytes (rb k) (tb k)) ∧ (rb k).size = 7) (hos : ∀ i, i < 7 → os[i]? = some (.int (oi i : Nat) (to i)) ∧ oi i < 7) (hol : os.length = 7)
    (hbd : ∀ k, k < 7 → 0 ≤ A k ∧ A k ≤ 800 ∧ 0 ≤ B k ∧ B k ≤ 800) (hM : ∀ i, i < 7 → PlaceOk fs A B dr rb oi i)
    (hWO : @Ne Nat W O) (hWd : ∀ q ∈ (L + 5, oP) :: (L + 6, oA) :: (L + 7, oB) :: (V, LCg.lst fv) :: (L + 4, oX) :: (D, LCg.lst ds) :: (L + 3, oD) :: (L + 2, oF) :: rest, @Ne Nat q.1 W ∧ @Ne Nat q.1 O)
    (hcd : ∀ q ∈ (V, LCg.lst fv) :: (L + 4, oX) :: (D, LCg.lst ds) :: (L + 3, oD) :: (L + 2, oF) :: rest, @Ne Nat q.1 (L + 5) ∧ @Ne Nat q.1 (L + 6) ∧ @Ne Nat q.1 (L + 7))
    (h125 : ∀ q ∈ (L + 5, oP) :: (L + 6, oA) :: (L + 7, oB) :: (W, LCg.lst rs) :: (O, LCg.lst os) :: (V, LCg.lst fv) :: (L + 4, oX) :: (D, LCg.lst ds) :: (L + 3, oD) :: (L + 2, oF) :: rest, @Ne Nat q.1 125)
    (hret : ∀ m' tab' h' tk', TabSt tab' → Fr h₀ L h' m' → News h₀ L h' (tab' ++ rest) → Q .next { s with heap := h', toks := tk' }) :
    wpAny (model PG w) (callerA.deeper (envOfC "law" sc L fa (.ref 141))) (exec st (envOfC "law" sc L fa (.ref 141))) Q E s := by
  obtain rfl : st = _ := Option.some.inj (hst.symm.trans (by with_unfolding_all rfl))
  obtain rfl : sc = _ := Option.some.inj (hsc.symm.trans (by with_unfolding_all rfl))
  clear hst hsc
  refine For_invT (hE := hE) h₀ ?_ (by intro _; rfl)
  (repeat' (first | (k_unfold; (try dsimp only)) | (k_end; wrow_close) | ((fail_if_success (with_reducible show wpAny _ _ (pyIter _) _ _ _)); walk1) | (dsimp only; (fail_if_success (with_reducible show wpAny _ _ (pyIter _) _ _ _)); walk1)))
  refine' forRangeT (n := 7) (fun i m₁ nw => ∃ lv kv oP oA oB tab, nw = (L + 5, oP) :: (L + 6, oA) :: (L + 7, oB) :: (W, LCg.lst rs) :: (O, LCg.lst os) :: (tab ++ (V, LCg.lst fv) :: (L + 4, oX) :: (D, LCg.lst ds) :: (L + 3, oD) :: (L + 2, oF) :: rest) ∧
    (m₁ = fun (y : Str) => if y = "like" then kv else if y = "less" then lv else m y) ∧ TabSt tab ∧ (∃ v, oP.data = .cell v) ∧ (∃ v, oA.data = .cell v) ∧ (∃ v, oB.data = .cell v) ∧
    TabOff L W O ((V, LCg.lst fv) :: (L + 4, oX) :: (D, LCg.lst ds) :: (L + 3, oD) :: (L + 2, oF) :: rest) tab) ?e1 ?e2 ?e3 ?e4 ?e5 ?e6 ?e7 ?_ ?_
  (case e1 => rfl)
  (case e2 => k_asm)
  (case e3 => decide)
  (case e4 => decide)
  (case e5 => k_asm)
  (case e6 => k_asm)
  (case e7 =>
    refine ⟨m "less", m "like", oP, oA, oB, [(125, tabObj #[])], rfl, ?_, .inl rfl, ⟨_, dP⟩, ⟨_, dA⟩, ⟨_, dB⟩, fun p hp => ?_⟩
    · funext y
      by_cases h1 : y = "like"
      · rw [if_pos h1, h1]
      · rw [if_neg h1]
        by_cases h2 : y = "less"
        · rw [if_pos h2, h2]
        · rw [if_neg h2]
    · rcases List.mem_singleton.mp hp with rfl
      exact ⟨Ne.symm (h125 _ (mem_pick 0 List.mem_cons_self)), Ne.symm (h125 _ (mem_pick 1 List.mem_cons_self)), Ne.symm (h125 _ (mem_pick 2 List.mem_cons_self)), Ne.symm (h125 _ (mem_pick 3 List.mem_cons_self)), Ne.symm (h125 _ (mem_pick 4 List.mem_cons_self)), fun q hq => Ne.symm (h125 q (dm 5 hq))⟩)
  · clear dP dA dB
    rintro i t m₁ nw I io s₁ hi ⟨lv, kv, oP', oA', oB', tab, rfl, rfl, hTab, vP, vA, vB, hdt⟩ hne F1 N1
    obtain ⟨M1, M2, M3, M4, M5, M6⟩ := hM i hi
    obtain ⟨xP, vP⟩ := vP
    have n65 : @Ne Nat (L + 6) (L + 5) := by show @Ne Nat _ _; omega
    have n75 : @Ne Nat (L + 7) (L + 5) := by show @Ne Nat _ _; omega
    have n56 : @Ne Nat (L + 5) (L + 6) := Ne.symm n65
    have n57 : @Ne Nat (L + 5) (L + 7) := Ne.symm n75
    have g5 : ∀ q ∈ tab ++ (V, LCg.lst fv) :: (L + 4, oX) :: (D, LCg.lst ds) :: (L + 3, oD) :: (L + 2, oF) :: rest, @Ne Nat q.1 (L + 5) := fapp (fun q hq => (hdt q hq).1) (fun q hq => (hcd q hq).1)
    have iI5 : @Ne Nat I (L + 5) := Ne.symm (hne _ (mem_pick 0 List.mem_cons_self))
    have W5 : @Ne Nat W (L + 5) := Ne.symm (hWd _ (mem_pick 0 List.mem_cons_self)).1
    have O5 : @Ne Nat O (L + 5) := Ne.symm (hWd _ (mem_pick 0 List.mem_cons_self)).2
    generalize htail : tab ++ (V, LCg.lst fv) :: (L + 4, oX) :: (D, LCg.lst ds) :: (L + 3, oD) :: (L + 2, oF) :: rest = tail at N1 g5
    walk1
    walk1
    subst htail
    (with_reducible rename Fr _ _ _ _ => F3)
    (with_reducible rename News _ _ _ _ => N3)
    rename Obj => oQ
    (rename _ = Data.cell _ => vQ)
    refine wpAny_execs_cons ?_
    refine law_pair (i := i) (A := A) (B := B) (ua := ua) (ub := ub) (dv := dv) (oP := oQ) (by with_unfolding_all rfl) (by with_unfolding_all rfl) ((I, io) :: (W, LCg.lst rs) :: (O, LCg.lst os) :: (tab ++ (D, LCg.lst ds) :: (L + 3, oD) :: (L + 2, oF) :: rest)) F3 X (news_seg [[(I, io)], [(L + 5, oQ)], [(L + 6, oA')], [(L + 7, oB')], [(W, LCg.lst rs)], [(O, LCg.lst os)], tab, [(V, LCg.lst fv)], [(L + 4, oX)], [(D, LCg.lst ds)], [(L + 3, oD)], [(L + 2, oF)]] rest [2, 3, 7, 8, 1, 0, 4, 5, 6, 9, 10, 11] N3) T dX vQ vA vB hi
      (fun k hk => ⟨(hfr k hk).1, dm 3 (List.mem_append_right _ (dm 3 (hfr k hk).2))⟩) ?_ ?_
    · exact fc (hcd _ (mem_pick 0 List.mem_cons_self)).2 (fc (hcd _ (mem_pick 1 List.mem_cons_self)).2 (fc ⟨n56, n57⟩ (fc ⟨Ne.symm (hne _ (mem_pick 1 List.mem_cons_self)), Ne.symm (hne _ (mem_pick 2 List.mem_cons_self))⟩ (fc ⟨Ne.symm (hWd _ (mem_pick 1 List.mem_cons_self)).1, Ne.symm (hWd _ (mem_pick 2 List.mem_cons_self)).1⟩ (fc ⟨Ne.symm (hWd _ (mem_pick 1 List.mem_cons_self)).2, Ne.symm (hWd _ (mem_pick 2 List.mem_cons_self)).2⟩ (fapp (fun q hq => ⟨(hdt q hq).2.1, (hdt q hq).2.2.1⟩) fun q hq => (hcd q (dm 2 hq)).2))))))
    intro oA9 oB9 ta9 tb9 h4 tk4 dA9 dB9 F4 N4
    dsimp only
    clear F3 N3
    refine wpAny_execs_cons ?_
    refine law_less (i := i) (A := A) (B := B) (ua := ua) (ub := ub) (dv := dv) (by with_unfolding_all rfl) (by with_unfolding_all rfl) ((L + 5, oQ) :: (I, io) :: (W, LCg.lst rs) :: (O, LCg.lst os) :: (tab ++ (D, LCg.lst ds) :: (L + 3, oD) :: (L + 2, oF) :: rest)) F4 X (news_seg [[(L + 6, oA9)], [(L + 7, oB9)], [(V, LCg.lst fv)], [(L + 4, oX)], [(L + 5, oQ)], [(I, io)], [(W, LCg.lst rs)], [(O, LCg.lst os)], tab, [(D, LCg.lst ds)], [(L + 3, oD)], [(L + 2, oF)]] rest [2, 3, 0, 1, 4, 5, 6, 7, 8, 9, 10, 11] N4) T dX dA9 dB9 hfl hbd hi
      (fun k hk => ⟨(hfr k hk).1, dm 4 (List.mem_append_right _ (dm 3 (hfr k hk).2))⟩) ?_
    intro t5 h5 tk5 F5 N5
    dsimp only
    clear F4 N4
    refine wpAny_execs_cons ?_
    refine law_like (i := i) (A := A) (B := B) (ua := ua) (ub := ub) (dv := dv) (by with_unfolding_all rfl) (by with_unfolding_all rfl) ((L + 5, oQ) :: (I, io) :: (W, LCg.lst rs) :: (O, LCg.lst os) :: (tab ++ (D, LCg.lst ds) :: (L + 3, oD) :: (L + 2, oF) :: rest)) F5 X N5 T dX dA9 dB9 hfl hbd hi
      (fun k hk => ⟨(hfr k hk).1, dm 4 (List.mem_append_right _ (dm 3 (hfr k hk).2))⟩) ?_
    intro K9 ys h6 tk6 hys F6 N6 o6
    dsimp only
    clear F5 N5
    rw [map_ll] at F6
    have k6 := off1_mem o6
    have hlen9 : ((lkF A B i).map Int.ofNat).length = (lkF A B i).length := List.length_map ..
    have hmO : (fun (y : Str) => if y = "like" then some (Value.ref K9) else if y = "less" then some (Value.int (lnF A B i : Nat) t5) else m y) "order" = some (.ref O) := (if_neg (by decide)).trans ((if_neg (by decide)).trans hO)
    have hmW : (fun (y : Str) => if y = "like" then some (Value.ref K9) else if y = "less" then some (Value.int (lnF A B i : Nat) t5) else m y) "rows" = some (.ref W) := (if_neg (by decide)).trans ((if_neg (by decide)).trans hW)
    have hmK : (fun (y : Str) => if y = "like" then some (Value.ref K9) else if y = "less" then some (Value.int (lnF A B i : Nat) t5) else m y) "like" = some (.ref K9) := if_pos rfl
    have hml : (fun (y : Str) => if y = "like" then some (Value.ref K9) else if y = "less" then some (Value.int (lnF A B i : Nat) t5) else m y) "less" = some (Value.int (lnF A B i : Nat) t5) := (if_neg (by decide)).trans (if_pos rfl)
    refine wpAny_execs_cons ?_
    refine law_cond1 (ys := ys) (i := i) (oi := oi) (to := to) (by with_unfolding_all rfl) (by with_unfolding_all rfl) ((I, io) :: (W, LCg.lst rs) :: (L + 6, oA9) :: (L + 7, oB9) :: (V, LCg.lst fv) :: (L + 4, oX) :: (tab ++ (D, LCg.lst ds) :: (L + 3, oD) :: (L + 2, oF) :: rest)) F6 X (news_seg [[(K9, LCg.lst ys)], [(V, LCg.lst fv)], [(L + 4, oX)], [(L + 6, oA9)], [(L + 7, oB9)], [(L + 5, oQ)], [(I, io)], [(W, LCg.lst rs)], [(O, LCg.lst os)], tab, [(D, LCg.lst ds)], [(L + 3, oD)], [(L + 2, oF)]] rest [0, 8, 5, 6, 7, 3, 4, 1, 2, 9, 10, 11, 12] N6) T hmO hmK hml vQ hys (by rw [hlen9]; exact lkF_len A B i) (fun k hk => (hos k hk).1) hi ?_ M1 M2 ?_
    · intro j hj
      obtain ⟨k, hk, rfl⟩ := List.mem_map.mp hj
      have := List.mem_range.mp (List.mem_filter.mp hk).1
      simp only [Int.ofNat_eq_natCast]
      omega
    intro h7 tk7 F7 N7
    dsimp only
    clear F6 N6
    refine wpAny_execs_cons ?_
    refine law_cond2 (ys := ys) (i := i) (dr := dr) (td := td) (by with_unfolding_all rfl) (by with_unfolding_all rfl) ((I, io) :: (W, LCg.lst rs) :: (O, LCg.lst os) :: (L + 6, oA9) :: (L + 7, oB9) :: (V, LCg.lst fv) :: (L + 4, oX) :: (tab ++ (L + 2, oF) :: rest)) F7 X (news_seg [[(K9, LCg.lst ys)], [(O, LCg.lst os)], [(L + 5, oQ)], [(I, io)], [(W, LCg.lst rs)], [(L + 6, oA9)], [(L + 7, oB9)], [(V, LCg.lst fv)], [(L + 4, oX)], tab, [(D, LCg.lst ds)], [(L + 3, oD)], [(L + 2, oF)]] rest [0, 10, 11, 2, 3, 4, 1, 5, 6, 7, 8, 9, 12] N7) T hmK vQ dD hds hi (by rw [lk_dr M3]; exact hys) ?_
    intro h8 tk8 F8 N8
    dsimp only
    clear F7 N7
    refine wpAny_execs_cons ?_
    refine law_cond3 (ys := ys) (i := i) (rb := rb) (tb := tb) (oi := oi) (to := to) (by with_unfolding_all rfl) (by with_unfolding_all rfl) tab ((I, io) :: (L + 6, oA9) :: (L + 7, oB9) :: (V, LCg.lst fv) :: (L + 4, oX) :: (D, LCg.lst ds) :: (L + 3, oD) :: rest) K F8 X (news_seg [[(K9, LCg.lst ys)], [(D, LCg.lst ds)], [(L + 3, oD)], [(L + 5, oQ)], [(I, io)], [(W, LCg.lst rs)], [(O, LCg.lst os)], [(L + 6, oA9)], [(L + 7, oB9)], [(V, LCg.lst fv)], [(L + 4, oX)], tab, [(L + 2, oF)]] rest [5, 6, 11, 0, 3, 12, 4, 7, 8, 9, 10, 1, 2] N8) T hC hmW hmO hmK hml vQ dF hys hi (by rw [hlen9]; exact lkF_len A B i) (lnF_le A B i) hTab ?_ (h125 _ (mem_pick 3 List.mem_cons_self)) (h125 _ (mem_pick 4 List.mem_cons_self)) hWO hrs hos hol M4 M5 (by rw [hlen9]; exact M6) ?_
    · exact fc (off_map ⟨Ne.symm (k6 _ (mem_pick 6 List.mem_cons_self)), Ne.symm (k6 _ (mem_pick 7 List.mem_cons_self)), fun q hq => k6 q (dm 8 (List.mem_append_left _ hq))⟩) (fc (off_map ⟨(hWd _ (mem_pick 0 List.mem_cons_self)).1, (hWd _ (mem_pick 0 List.mem_cons_self)).2, fun q hq => (hdt q hq).1⟩) (fc (off_map ⟨(hWd _ (mem_pick 7 List.mem_cons_self)).1, (hWd _ (mem_pick 7 List.mem_cons_self)).2, fun q hq => (hdt q hq).2.2.2.2.2 _ (mem_pick 4 List.mem_cons_self)⟩) (fc (off_map ⟨Ne.symm (hne _ (mem_pick 3 List.mem_cons_self)), Ne.symm (hne _ (mem_pick 4 List.mem_cons_self)), fun q hq => hne q (dm 5 (List.mem_append_left _ hq))⟩) (fc (off_map ⟨(hWd _ (mem_pick 1 List.mem_cons_self)).1, (hWd _ (mem_pick 1 List.mem_cons_self)).2, fun q hq => (hdt q hq).2.1⟩) (fc (off_map ⟨(hWd _ (mem_pick 2 List.mem_cons_self)).1, (hWd _ (mem_pick 2 List.mem_cons_self)).2, fun q hq => (hdt q hq).2.2.1⟩) (fc (off_map ⟨(hWd _ (mem_pick 3 List.mem_cons_self)).1, (hWd _ (mem_pick 3 List.mem_cons_self)).2, fun q hq => (hdt q hq).2.2.2.2.2 _ (mem_pick 0 List.mem_cons_self)⟩) (fc (off_map ⟨(hWd _ (mem_pick 4 List.mem_cons_self)).1, (hWd _ (mem_pick 4 List.mem_cons_self)).2, fun q hq => (hdt q hq).2.2.2.2.2 _ (mem_pick 1 List.mem_cons_self)⟩) (fc (off_map ⟨(hWd _ (mem_pick 5 List.mem_cons_self)).1, (hWd _ (mem_pick 5 List.mem_cons_self)).2, fun q hq => (hdt q hq).2.2.2.2.2 _ (mem_pick 2 List.mem_cons_self)⟩) (fc (off_map ⟨(hWd _ (mem_pick 6 List.mem_cons_self)).1, (hWd _ (mem_pick 6 List.mem_cons_self)).2, fun q hq => (hdt q hq).2.2.2.2.2 _ (mem_pick 3 List.mem_cons_self)⟩) (fun p hp => off_map ⟨(hWd p (dm 8 hp)).1, (hWd p (dm 8 hp)).2, fun q hq => (hdt q hq).2.2.2.2.2 p (dm 5 hp)⟩))))))))))
    intro tab9 h9 tk9 hT9 hd9 F9 N9
    dsimp only
    clear F8 N8
    refine wpAny_execs_nil ?_
    refine ⟨rfl, h9, tk9, _, (L + 5, oQ) :: (L + 6, oA9) :: (L + 7, oB9) :: (W, LCg.lst rs) :: (O, LCg.lst os) :: (tab9 ++ (V, LCg.lst fv) :: (L + 4, oX) :: (D, LCg.lst ds) :: (L + 3, oD) :: (L + 2, oF) :: rest), rfl, F9, news_seg [[(W, LCg.lst rs)], [(O, LCg.lst os)], tab9, [(K9, LCg.lst ys)], [(L + 5, oQ)], [(L + 2, oF)], [(I, io)], [(L + 6, oA9)], [(L + 7, oB9)], [(V, LCg.lst fv)], [(L + 4, oX)], [(D, LCg.lst ds)], [(L + 3, oD)]] rest [6, 4, 7, 8, 0, 1, 2, 9, 10, 11, 12, 5] N9, ?_, _, _, oQ, oA9, oB9, tab9, rfl, rfl, hT9, ⟨_, vQ⟩, ⟨_, dA9⟩, ⟨_, dB9⟩, ?_⟩
    · exact fc (hne (L + 5, oP') (mem_pick 0 List.mem_cons_self)) (fc (hne (L + 6, oA') (mem_pick 1 List.mem_cons_self)) (fc (hne (L + 7, oB') (mem_pick 2 List.mem_cons_self)) (fc (hne _ (mem_pick 3 List.mem_cons_self)) (fc (hne _ (mem_pick 4 List.mem_cons_self)) (fapp (fun p hp => (hd9 p hp).elim (fun ⟨q, hq, e⟩ => e ▸ hne q (dm 5 (List.mem_append_left _ hq))) fun g => Ne.symm (Nat.ne_of_lt (g.1 _ (mem_pick 3 List.mem_cons_self)))) fun q hq => hne q (dm 5 (List.mem_append_right _ hq)))))))
    · intro p hp
      rcases hd9 p hp with ⟨q, hq, e⟩ | ⟨g1, gW, gO⟩
      · rw [← e]; exact hdt q hq
      · exact ⟨Ne.symm (Nat.ne_of_lt (g1 _ (mem_pick 1 List.mem_cons_self))), Ne.symm (Nat.ne_of_lt (g1 _ (mem_pick 4 List.mem_cons_self))), Ne.symm (Nat.ne_of_lt (g1 _ (mem_pick 5 List.mem_cons_self))), Ne.symm (Nat.ne_of_lt gW), Ne.symm (Nat.ne_of_lt gO), fun q hq => Ne.symm (Nat.ne_of_lt (g1 q (segs_sub [6, 7, 8, 9, 2] [[(K9, LCg.lst ys)], [(L + 5, oQ)], [(L + 2, oF)], [(I, io)], [(L + 6, oA9)], [(L + 7, oB9)], [(V, LCg.lst fv)], [(L + 4, oX)], [(D, LCg.lst ds)], [(L + 3, oD)]] rest q hq)))⟩
  · rintro m₁ nw h tk ⟨lv, kv, oP', oA', oB', tab, rfl, rfl, hTab, -, -, -, -⟩ F9 N9
    exact hret _ tab _ _ hTab F9 (news_seg [[(L + 5, oP')], [(L + 6, oA')], [(L + 7, oB')], [(W, LCg.lst rs)], [(O, LCg.lst os)], tab, [(V, LCg.lst fv)], [(L + 4, oX)], [(D, LCg.lst ds)], [(L + 3, oD)], [(L + 2, oF)]] rest [5] N9)
/-- one row of the table: address, place, tokens -/
abbrev TabE := Addr × Nat × Tok × Tok
noncomputable def tabV (as : List TabE) : List Value := as.map fun e => .ref e.1
abbrev drS (dr : Nat → Str) (k : Nat) : List Nat := (dr k).cps.toList
abbrev qualI : Str := Str.ofString "law" ++ Str.ofString ".<locals>." ++ Str.ofString "<lambda>"
abbrev tabL (c1 : Addr) : Obj := tabObj (#[] ++ #[rawInt ((157 : Nat) : Int), rawInt ((48 : Nat) : Int), .ref c1])
def TabI (i : Nat) (tl : List (Addr × Obj)) : Prop :=
  (i = 0 ∧ tl = [(139, tabObj #[])]) ∨ ∃ c1 o1 v1 t1, tl = [(139, tabL c1), (c1, o1)] ∧ o1.data = .fields v1 ∧ v1[1]? = some (.str qualI t1)
noncomputable def tabO (dr : Nat → Str) (as : List TabE) : List (Addr × Obj) := as.map fun e => (e.1, tupO (dr e.2.1) e.2.2.1 (e.2.1 : Nat) e.2.2.2)
noncomputable def kvI (dr : Nat → Str) (as : List TabE) (j : Nat) (_ : Tok) : Value := match as[j]? with
  | some e => .str (dr e.2.1) e.2.2.1
  | none => .none
theorem tabO_mem {dr : Nat → Str} {as as' : List TabE} (h : ∀ e ∈ as, e ∈ as') : ∀ p ∈ tabO dr as, p ∈ tabO dr as' := fun p hp => by
  obtain ⟨e, he, rfl⟩ := List.mem_map.mp hp
  exact List.mem_map_of_mem (h e he)
theorem insI {w : World} {mean : ExcName → Option Value} {mg mb : Str → Option Value} {tb f c' d : Addr} {oc : Obj} {pm ctv : Value} {qual : Str} {vs' : Array Value} {tq u v : Tok} {dr : Nat → Str} {as : List TabE} {i : Nat} {rest : List (Addr × Obj)} {args : Args} (tl : Tok)
  {fd : FuncData} {oc9 : Value} {od : Option Addr} {osl : Array (Option Value)}
  (dp un : Nat) (gd : Option (List Code)) (cn : Str) (csc : Scope) (ca : Addr) (ccd : Value) (cl : List (Str × Addr)) (outer : List Env) (A₀ : Around) (base h₀ : Heap) (L : Addr) (m : Str → Option Value) (s : Shared) (R : Result → Shared → Prop)
  (B : Below A₀ base outer h₀) (F : Fr h₀ L s.heap m) (X : (hd.heap_1 w.params).In h₀) (N : News h₀ L s.heap ((tb, listOf (List.toArray (tabV as)) i) :: (f, kla_obj (Str.ofString "<lambda>") qual lamPI lamEI lamSI [] pm c' ctv) :: (c', oc) :: (d, tupO (dr i) u (i : Nat) v) :: (tabO dr as ++ rest))) (T : Top topProg LZ mean mg mb h₀) (hcs : csc.kind = .function)
  (hfd : (hd.heap_1 w.params).lookup 46 = some ⟨oc9, od, .func fd, osl⟩)
  (hbind : BindsTo s fd args [(Str.ofString "a", .ref tb), (Str.ofString "x", .ref d), (Str.ofString "lo", .int 0 tl), (Str.ofString "hi", .none), (Str.ofString "key", .ref f)])
  (hd1 : oc.data = .fields vs') (hd2 : vs'[1]? = some (.str qual tq)) (hi : i < 7) (hT : TabOk (drS dr) i (as.map (·.2.1)))
  (hrest : ∀ p ∈ (f, kla_obj (Str.ofString "<lambda>") qual lamPI lamEI lamSI [] pm c' ctv) :: (c', oc) :: (d, tupO (dr i) u (i : Nat) v) :: (tabO dr as ++ rest), p.1 ≠ tb)
  (hdp : dp + (2 + 6) < recursionLimit) (hun : un + 8 * (2 + 6) < cLine)
  (hret : ∀ as' h' tk', TabOk (drS dr) (i + 1) (as'.map (·.2.1)) → (∀ p ∈ tabO dr as', p ∈ (d, tupO (dr i) u (i : Nat) v) :: tabO dr as) → Fr h₀ L h' m → News h₀ L h' ((tb, listOf (List.toArray (tabV as')) (i + 1)) :: (f, kla_obj (Str.ofString "<lambda>") qual lamPI lamEI lamSI [] pm c' ctv) :: (c', oc) :: (tabO dr as' ++ rest)) → R (.ok (.ret .none)) { s with heap := h', toks := tk' }) :
  codeAny (model PG w) (ktrTop dp un gd cn csc L ca ccd cl outer) (.call (.ref 46) args) R s := by
  have hlen : as.length = i := by have := hT.len; simpa using this
  have hvl : (tabV as).length = i := by unfold tabV; rw [List.length_map, hlen]
  have hkl : (as.map (·.2.1)).length = i := hT.len
  refine insort_C 2 _ tb f d (tabV as) i (kvI dr as) (fun _ => .str (dr i) u) (fun j => decide (drS dr ((as.map (·.2.1)).getD j 0) < drS dr i)) tl args dp un gd cn csc ca ccd cl outer A₀ base h₀ L m s R B F X N T hcs hfd hbind hrest ⟨_, _, _, _, List.mem_cons_self⟩ (by omega) ?_ ?_ ?_ ?_ hdp hun ?_
  · intro j vv hv
    unfold tabV at hv
    rw [List.getElem?_map] at hv
    cases he : as[j]? with
    | none => rw [he] at hv; cases hv
    | some e =>
      rw [he] at hv
      cases hv
      have hk : kvI dr as j = fun _ => .str (dr e.2.1) e.2.2.1 := by funext t; unfold kvI; rw [he]
      rw [hk]
      refine lamI (a := e.1) (v := e.2.2.2) (k := (e.2.1 : Nat)) (.tail _ (.head _)) (.tail _ (.tail _ (.head _))) hd1 hd2 ?_
      have hm : (e.1, tupO (dr e.2.1) e.2.2.1 (e.2.1 : Nat) e.2.2.2) ∈ tabO dr as := List.mem_map_of_mem (f := fun e : TabE => (e.1, tupO (dr e.2.1) e.2.2.1 (e.2.1 : Nat) e.2.2.2)) (List.mem_of_getElem? he)
      exact dm 4 (List.mem_append_left _ hm)
  · exact lamI (a := d) (v := v) (k := (i : Nat)) (.tail _ (.head _)) (.tail _ (.tail _ (.head _))) hd1 hd2 (mem_pick 3 List.mem_cons_self)
  · intro j hj t t' A E s' Q' hQ
    rw [hvl] at hj
    have hj2 : j < as.length := by omega
    have hk : kvI dr as j t = .str (dr as[j].2.1) as[j].2.2.1 := by unfold kvI; rw [List.getElem?_eq_getElem hj2]
    rw [hk]
    refine lt_str ?_
    have e1 : (as.map (·.2.1)).getD j 0 = as[j].2.1 := by rw [getD_at (by rw [List.length_map]; exact hj2), List.getElem_map]
    rw [e1] at hQ
    exact hQ
  · intro j1 j2 h12 hj2 h
    simp only [decide_eq_true_eq] at h ⊢
    exact hT.mono h12 (by omega) h
  · intro r h' tk' hr h1 h2 F' N'
    have hst := hT.step (r := r) (by omega) (fun j hj => by simpa using h1 j hj) (fun j hj hj2 => by have := h2 j hj (by omega); simpa using this)
    have hs : ∀ p ∈ tabO dr (as.take r ++ (d, i, u, v) :: as.drop r), p ∈ (d, tupO (dr i) u (i : Nat) v) :: tabO dr as := fun p hp => by
      obtain ⟨e, he, rfl⟩ := List.mem_map.mp hp
      rcases List.mem_append.mp he with he | he
      · exact List.mem_cons_of_mem _ (List.mem_map_of_mem (List.mem_of_mem_take he))
      · rcases List.mem_cons.mp he with rfl | he
        · exact List.mem_cons_self
        · exact List.mem_cons_of_mem _ (List.mem_map_of_mem (List.mem_of_mem_drop he))
    refine hret (as.take r ++ (d, i, u, v) :: as.drop r) h' tk' ?_ hs F' ?_
    · rw [List.map_append, List.map_cons, List.map_take, List.map_drop]; exact hst
    · have e1 : tabV (as.take r ++ (d, i, u, v) :: as.drop r) = (tabV as).take r ++ .ref d :: (tabV as).drop r := by unfold tabV; rw [List.map_append, List.map_cons, List.map_take, List.map_drop]
      rw [e1]
      exact news_sub N' (fc List.mem_cons_self (fc (mem_pick 1 List.mem_cons_self) (fc (mem_pick 2 List.mem_cons_self) (fapp (fun p h => (List.mem_cons.mp (hs p h)).elim (fun e => e ▸ mem_pick 3 List.mem_cons_self) fun h => dm 4 (List.mem_append_left _ h)) fun p h => dm 4 (List.mem_append_right _ h)))))
theorem e7_map {m : Str → Option Value} {v : Option Value} (h : m "table" = v) : (fun (y : Str) => if y = "table" then v else m y) = fun (y : Str) => if y = "k" then m "k" else if y = "table" then v else m y := by
  funext y
  by_cases h1 : y = "k"
  · rw [if_pos h1, h1, at_fr h]
  · rw [if_neg h1]
theorem seven_as {C : Prop} {as : List TabE} (h : (as.map (·.2.1)).length = 7) (k : ∀ e0 e1 e2 e3 e4 e5 e6, as = [e0, e1, e2, e3, e4, e5, e6] → C) : C := by
  rw [List.length_map] at h
  match as, h with
  | [e0, e1, e2, e3, e4, e5, e6], _ => exact k e0 e1 e2 e3 e4 e5 e6 rfl
theorem turn_end {h₀ h' : Heap} {L I : Addr} {io : Obj} {nw : List (Addr × Obj)} {tk' : Nat} {J : (Str → Option Value) → List (Addr × Obj) → Prop} {m' : Str → Option Value} {s : Shared} {Q : Flow → Shared → Prop}
    (F : Fr h₀ L h' m') (N : News h₀ L h' ((I, io) :: nw)) (d : ∀ p ∈ nw, p.1 ≠ I) (hJ : J m' nw) : TurnQ h₀ L I io J s Q .next { s with heap := h', toks := tk' } := ⟨h', tk', m', nw, rfl, F, N, d, hJ⟩
theorem map_two {x : Str} {a b : Option Value} {f : Str → Option Value} : (fun y => if y = x then a else (fun y => if y = x then b else f y) y) = fun y => if y = x then a else f y := by
  funext y
  by_cases h : y = x
  · simp only [if_pos h]
  · simp only [if_neg h]
theorem law_insert {w : World} {mean : ExcName → Option Value} {mg mb : Str → Option Value} {st : Stmt} (hst : lawBody[9]? = some st) {sc : Scope} (hsc : lawScope[0]? = some sc) {L fa tb D : Addr} {h₀ base : Heap} {m : Str → Option Value} {s : Shared}
    {Q : Flow → Shared → Prop} {E : Value → Shared → Prop} {oD : Obj} {ds : List Value} {dr : Nat → Str} {td : Nat → Tok} (rest : List (Addr × Obj)) (h139 : ∀ p ∈ (tb, listOf (List.toArray []) 0) :: (L + 3, oD) :: (D, LCg.lst ds) :: rest, @Ne Nat p.1 139) (htb9 : ∀ p ∈ (L + 3, oD) :: (D, LCg.lst ds) :: rest, @Ne Nat p.1 tb) (K : Below callerA base [] h₀) (hC : CodeHd base 141 139) (F : Fr h₀ L s.heap m) (X : (hd.heap_1 w.params).In h₀)
    (N : News h₀ L s.heap ((tb, listOf (List.toArray []) 0) :: (139, tabObj #[]) :: (L + 3, oD) :: (D, LCg.lst ds) :: rest)) (T : Top topProg LZ mean mg mb h₀)
    (hE : PassesOwn (model PG w) (callerA.deeper (envOfC "law" sc L fa (.ref 141))) (envOfC "law" sc L fa (.ref 141)) E)
    (htb : m "table" = some (.ref tb)) (dD : oD.data = .cell (some (.ref D))) (hds : ∀ k, k < 7 → ds[k]? = some (.str (dr k) (td k)))
    (hret : ∀ (k0 k1 k2 k3 k4 k5 k6 : Nat) b0 b1 b2 b3 b4 b5 b6 u0 u1 u2 u3 u4 u5 u6 v0 v1 v2 v3 v4 v5 v6 kv c1 h' tk', TabOk (drS dr) 7 [k0, k1, k2, k3, k4, k5, k6] → Fr h₀ L h' (fun y => if y = "k" then kv else m y) →
      News h₀ L h' ((tb, LCg.lst [.ref b0, .ref b1, .ref b2, .ref b3, .ref b4, .ref b5, .ref b6]) :: (b0, tupO (dr k0) u0 k0 v0) :: (b1, tupO (dr k1) u1 k1 v1) :: (b2, tupO (dr k2) u2 k2 v2) :: (b3, tupO (dr k3) u3 k3 v3) :: (b4, tupO (dr k4) u4 k4 v4) :: (b5, tupO (dr k5) u5 k5 v5) :: (b6, tupO (dr k6) u6 k6 v6) :: (139, tabL c1) :: (L + 3, oD) :: (D, LCg.lst ds) :: rest) → Q .next { s with heap := h', toks := tk' }) :
    wpAny (model PG w) (callerA.deeper (envOfC "law" sc L fa (.ref 141))) (exec st (envOfC "law" sc L fa (.ref 141))) Q E s := by
  obtain rfl : st = _ := Option.some.inj (hst.symm.trans (by with_unfolding_all rfl))
  obtain rfl : sc = _ := Option.some.inj (hsc.symm.trans (by with_unfolding_all rfl))
  clear hst hsc
  have F2 := fr_at F htb
  clear F
  (with_unfolding_all refine' For_invVF (hE := hE) F2 ?k1 ?k2 ?_; (case k1 => exact rfl); (case k2 => exact rfl))
  (repeat' (first | (k_unfold; (try dsimp only)) | (k_end; wrow_close) | ((fail_if_success (with_reducible show wpAny _ _ (pyIter _) _ _ _)); walk1) | (dsimp only; (fail_if_success (with_reducible show wpAny _ _ (pyIter _) _ _ _)); walk1)))
  refine' forRangeG (n := 7) (fun i m₁ nw => ∃ as tl kv, nw = (tb, listOf (List.toArray (tabV as)) i) :: (tl ++ (L + 3, oD) :: (D, LCg.lst ds) :: (tabO dr as ++ rest)) ∧ TabOk (drS dr) i (as.map (·.2.1)) ∧ TabI i tl ∧ (∀ p ∈ tabO dr as, @LT.lt Nat _ 139 p.1 ∧ @Ne Nat p.1 tb) ∧ (∀ p ∈ tl, @Ne Nat p.1 tb) ∧ m₁ = fun (y : Str) => if y = "k" then kv else if y = "table" then some (.ref tb) else m y) ?e1 ?e2 ?e3 ?e4 ?e5 ?e6 ?e7 ?_ ?_
  (case e1 => rfl)
  (case e2 => k_asm)
  (case e3 => decide)
  (case e4 => decide)
  (case e5 => k_asm)
  (case e6 => k_asm)
  (case e7 => exact ⟨[], [(139, tabObj #[])], m "k", rfl, TabOk.zero _, .inl ⟨rfl, rfl⟩, (fun p hp => by cases hp), fun p hp => (by rcases List.mem_singleton.mp hp with rfl; exact Ne.symm (h139 (tb, listOf (List.toArray []) 0) List.mem_cons_self)), e7_map htb⟩)
  · rintro i t m₁ nw I io h tk hi ⟨as, tl, kv, rfl, hT, hI, hA, hB, rfl⟩ hne F1 N1
    have e1 := h139 (tb, listOf (List.toArray []) 0) (List.mem_cons_self)
    have e2 := h139 (L + 3, oD) (mem_pick 1 List.mem_cons_self)
    have e3 := h139 (D, LCg.lst ds) (mem_pick 2 List.mem_cons_self)
    have e4 := htb9 (L + 3, oD) List.mem_cons_self
    have e5 := htb9 (D, LCg.lst ds) (mem_pick 1 List.mem_cons_self)
    dsimp only at e1 e2 e3 e4 e5
    rw [map_two] at F1
    rw [show (0 : Int) + (i : Nat) * 1 = (i : Nat) by omega] at F1
    have hidx : ds[((i : Nat) : Int).toNat]? = some (.str (dr i) (td i)) := hds i hi
    have q1 : ∀ p ∈ tabO dr as ++ rest, @Ne Nat p.1 139 := fapp (fun p hp => (Nat.ne_of_lt (hA p hp).1).symm) fun p hp => h139 p (dm 3 hp)
    have q2 : ∀ p ∈ tabO dr as ++ rest, @Ne Nat p.1 tb := fapp (fun p hp => (hA p hp).2) fun p hp => htb9 p (dm 2 hp)
    rcases hI with ⟨hi0, rfl⟩ | ⟨c1, o1, v1, t1, rfl, d1, d2⟩
    · simp only [List.cons_append, List.nil_append] at N1 hne
      have e6 : @Ne Nat I 139 := Ne.symm (hne _ (List.mem_cons_of_mem _ List.mem_cons_self))
      have e7 : @Ne Nat I tb := Ne.symm (hne _ List.mem_cons_self)
      generalize htail : tabO dr as ++ rest = tail at N1 q1 q2
      (repeat' (first | (k_unfold; (try dsimp only)) | (k_end; wrow_close) | ((fail_if_success (with_reducible show wpAny _ _ (call (Value.ref _) _) _ _ _)); walk1) | (dsimp only; (fail_if_success (with_reducible show wpAny _ _ (call (Value.ref _) _) _ _ _)); walk1)))
      refine item_mem (by k_asm) (by k_mem) (by omega) (by omega) hidx ?_
      iterate 9 (first | walk1 | (dsimp only; walk1))
      subst htail
      rename_i d0 h0 F0 f' c' oc' vs' t' ct' h' tk' F' d1' d2' l2 N0 l0 N' l1
      have N9 : News h₀ L h' ((tb, listOf (List.toArray (tabV as)) i) :: (f', kla_obj (Str.ofString "<lambda>") qualI lamPI lamEI lamSI [] ((mg "__name__").getD .none) c' ct') :: (c', oc') :: (d0, tupO (dr i) (td i) (i : Nat) t) :: (tabO dr as ++ (I, io) :: (139, tabL c') :: (L + 3, oD) :: (D, LCg.lst ds) :: rest)) := news_seg [[(f', kla_obj (Str.ofString "<lambda>") qualI lamPI lamEI lamSI [] ((mg "__name__").getD .none) c' ct')], [(c', oc')], [(d0, tupO (dr i) (td i) (i : Nat) t)], [(I, io)], [(tb, listOf (List.toArray (tabV as)) i)], [(139, tabL c')], [(L + 3, oD)], [(D, LCg.lst ds)], tabO dr as] rest [4, 0, 1, 2, 8, 3, 5, 6, 7] N'
      refine wpAny_call ?_
      refine' insI (rest := (I, io) :: (139, tabL c') :: (L + 3, oD) :: (D, LCg.lst ds) :: rest) _ _ _ _ _ _ _ _ _ _ _ _ _ _ _ _ _ ?cB ?cF ?cX N9 ?cT ?cK ?x1 ?x2 (by assumption) (by assumption) hi hT ?x3 ?cD ?cU ?_
      (case x1 => k_dflt k_is)
      (case x2 =>
        refine' binds_K ?b0 ?b1 ?b2 ?b3 ?b4 ?b5
        (case b0 => k_in)
        (case b1 => rfl)
        (case b2 => k_dflt k_is)
        (case b3 => rfl)
        (case b4 => rfl)
        (case b5 => with_unfolding_all rfl))
      (case cB => k_asm)
      (case cF => k_asm)
      (case cX => k_asm)
      (case cT => k_asm)
      (case cK => first | exact rfl | assumption)
      (case cD => ktr_room)
      (case cU => ktr_units)
      (case x3 => exact fc (Nat.ne_of_lt (Nat.lt_trans l1.2.2.1 l2)).symm (fc (Nat.ne_of_lt l1.2.2.1).symm (fc (Nat.ne_of_lt l0.2.1).symm (fapp (fun p h => q2 p (List.mem_append_left _ h)) (fc e7 (fc (Ne.symm e1) (fc e4 (fc e5 fun p h => q2 p (List.mem_append_right _ h)))))))))
      intro as' h9 tk9 hT9 hs9 F9 N9'
      dsimp only
      clear N9 N' F' N0 F0
      refine wpAny_execs_nil ?_
      refine turn_end F9 (nw := (tb, listOf (List.toArray (tabV as')) (i + 1)) :: ([(139, tabL c'), (c', oc')] ++ (L + 3, oD) :: (D, LCg.lst ds) :: (tabO dr as' ++ rest))) (news_seg [[(tb, listOf (List.toArray (tabV as')) (i + 1))], [(f', kla_obj (Str.ofString "<lambda>") qualI lamPI lamEI lamSI [] ((mg "__name__").getD .none) c' ct')], [(c', oc')], tabO dr as', [(I, io)], [(139, tabL c')], [(L + 3, oD)], [(D, LCg.lst ds)]] rest [4, 0, 5, 2, 6, 7, 3] N9') ?_ ⟨as', [(139, tabL c'), (c', oc')], _, rfl, hT9, .inr ⟨c', oc', vs', t', rfl, d1', d2'⟩, ?_, ?_, rfl⟩
      · exact fc (Ne.symm e7) (fc (Ne.symm e6) (fc (Nat.ne_of_lt l1.2.1).symm (fc (hne _ (mem_pick 2 List.mem_cons_self)) (fc (hne _ (mem_pick 3 List.mem_cons_self)) (fapp (fun p h => (List.mem_cons.mp (hs9 p h)).elim (fun e => e ▸ (Nat.ne_of_lt l0.1).symm) fun h => hne p (dm 4 (List.mem_append_left _ h))) fun p h => hne p (dm 4 (List.mem_append_right _ h)))))))
      · intro p hp
        rcases List.mem_cons.mp (hs9 p hp) with rfl | h
        · exact ⟨l0.2.2.1, (Nat.ne_of_lt l0.2.1).symm⟩
        · exact hA p h
      · exact fc (Ne.symm e1) (fc (Nat.ne_of_lt l1.2.2.1).symm (List.forall_mem_nil _))
    · simp only [List.cons_append, List.nil_append] at N1 hne
      have e6 : @Ne Nat I 139 := Ne.symm (hne _ (List.mem_cons_of_mem _ List.mem_cons_self))
      have e8 : @Ne Nat c1 tb := hB (c1, o1) (mem_pick 1 List.mem_cons_self)
      have e7 : @Ne Nat I tb := Ne.symm (hne _ List.mem_cons_self)
      generalize htail : tabO dr as ++ rest = tail at N1 q1 q2
      (repeat' (first | (k_unfold; (try dsimp only)) | (k_end; wrow_close) | ((fail_if_success (with_reducible show wpAny _ _ (call (Value.ref _) _) _ _ _)); walk1) | (dsimp only; (fail_if_success (with_reducible show wpAny _ _ (call (Value.ref _) _) _ _ _)); walk1)))
      refine item_mem (by k_asm) (by k_mem) (by omega) (by omega) hidx ?_
      iterate 9 (first | walk1 | (dsimp only; walk1))
      rename_i d0 h0 F0 N0 l0 f' ct' h' tk' F' N' l1
      subst htail
      have N9 : News h₀ L h' ((tb, listOf (List.toArray (tabV as)) i) :: (f', kla_obj (Str.ofString "<lambda>") qualI lamPI lamEI lamSI [] ((mg "__name__").getD .none) c1 ct') :: (c1, o1) :: (d0, tupO (dr i) (td i) (i : Nat) t) :: (tabO dr as ++ (I, io) :: (139, tabL c1) :: (L + 3, oD) :: (D, LCg.lst ds) :: rest)) := news_seg [[(f', kla_obj (Str.ofString "<lambda>") qualI lamPI lamEI lamSI [] ((mg "__name__").getD .none) c1 ct')], [(d0, tupO (dr i) (td i) (i : Nat) t)], [(I, io)], [(tb, listOf (List.toArray (tabV as)) i)], [(139, tabL c1)], [(c1, o1)], [(L + 3, oD)], [(D, LCg.lst ds)], tabO dr as] rest [3, 0, 5, 1, 8, 2, 4, 6, 7] N'
      refine wpAny_call ?_
      refine' insI (rest := (I, io) :: (139, tabL c1) :: (L + 3, oD) :: (D, LCg.lst ds) :: rest) _ _ _ _ _ _ _ _ _ _ _ _ _ _ _ _ _ ?cB ?cF ?cX N9 ?cT ?cK ?x1 ?x2 d1 d2 hi hT ?x3 ?cD ?cU ?_
      (case x1 => k_dflt k_is)
      (case x2 =>
        refine' binds_K ?b0 ?b1 ?b2 ?b3 ?b4 ?b5
        (case b0 => k_in)
        (case b1 => rfl)
        (case b2 => k_dflt k_is)
        (case b3 => rfl)
        (case b4 => rfl)
        (case b5 => with_unfolding_all rfl))
      (case cB => k_asm)
      (case cF => k_asm)
      (case cX => k_asm)
      (case cT => k_asm)
      (case cK => first | exact rfl | assumption)
      (case cD => ktr_room)
      (case cU => ktr_units)
      (case x3 => exact fc (Nat.ne_of_lt l1.2.2.1).symm (fc e8 (fc (Nat.ne_of_lt l0.2.1).symm (fapp (fun p h => q2 p (List.mem_append_left _ h)) (fc e7 (fc (Ne.symm e1) (fc e4 (fc e5 fun p h => q2 p (List.mem_append_right _ h)))))))))
      intro as' h9 tk9 hT9 hs9 F9 N9'
      dsimp only
      clear N9 N' F' N0 F0
      refine wpAny_execs_nil ?_
      refine turn_end F9 (nw := (tb, listOf (List.toArray (tabV as')) (i + 1)) :: ([(139, tabL c1), (c1, o1)] ++ (L + 3, oD) :: (D, LCg.lst ds) :: (tabO dr as' ++ rest))) (news_seg [[(tb, listOf (List.toArray (tabV as')) (i + 1))], [(f', kla_obj (Str.ofString "<lambda>") qualI lamPI lamEI lamSI [] ((mg "__name__").getD .none) c1 ct')], [(c1, o1)], tabO dr as', [(I, io)], [(139, tabL c1)], [(L + 3, oD)], [(D, LCg.lst ds)]] rest [4, 0, 5, 2, 6, 7, 3] N9') ?_ ⟨as', [(139, tabL c1), (c1, o1)], _, rfl, hT9, .inr ⟨c1, o1, v1, t1, rfl, d1, d2⟩, ?_, hB, rfl⟩
      · exact fc (Ne.symm e7) (fc (Ne.symm e6) (fc (hne _ (mem_pick 2 List.mem_cons_self)) (fc (hne _ (mem_pick 3 List.mem_cons_self)) (fc (hne _ (mem_pick 4 List.mem_cons_self)) (fapp (fun p h => (List.mem_cons.mp (hs9 p h)).elim (fun e => e ▸ (Nat.ne_of_lt l0.1).symm) fun h => hne p (dm 5 (List.mem_append_left _ h))) fun p h => hne p (dm 5 (List.mem_append_right _ h)))))))
      · intro p hp
        rcases List.mem_cons.mp (hs9 p hp) with rfl | h
        · exact ⟨l0.2.2.1, (Nat.ne_of_lt l0.2.1).symm⟩
        · exact hA p h
  · rintro m₁ nw h tk ⟨as, tl, kv, rfl, hT, hI, hA, hB, rfl⟩ F1 N1
    rcases hI with ⟨h0, -⟩ | ⟨c1, o1, v1, t1, rfl, -, -⟩
    · exact absurd h0 (by decide)
    refine seven_as hT.len fun e0 e1 e2 e3 e4 e5 e6 he => ?_
    subst he
    refine hret e0.2.1 e1.2.1 e2.2.1 e3.2.1 e4.2.1 e5.2.1 e6.2.1 e0.1 e1.1 e2.1 e3.1 e4.1 e5.1 e6.1 e0.2.2.1 e1.2.2.1 e2.2.2.1 e3.2.2.1 e4.2.2.1 e5.2.2.1 e6.2.2.1 e0.2.2.2 e1.2.2.2 e2.2.2.2 e3.2.2.2 e4.2.2.2 e5.2.2.2 e6.2.2.2 kv c1 h tk hT ?_ (news_seg [[(tb, listOf (List.toArray (tabV [e0, e1, e2, e3, e4, e5, e6])) 7)], [(139, tabL c1)], [(c1, o1)], [(L + 3, oD)], [(D, LCg.lst ds)], tabO dr [e0, e1, e2, e3, e4, e5, e6]] rest [0, 5, 1, 3, 4] N1)
    · have e : (fun (y : Str) => if y = "k" then kv else if y = "table" then some (Value.ref tb) else m y) = fun (y : Str) => if y = "k" then kv else m y := by
        funext y
        by_cases h1 : y = "k"
        · simp only [if_pos h1]
        · simp only [if_neg h1]; exact at_fr htb y
      rw [e] at F1; exact F1
/-! the plain law -/
noncomputable def eC1 (fl : List Nat) (c : Nat) : Int := ix c + (if fl.contains c then 1 else 0)
noncomputable def wC (fl : List Nat) (c : Nat) : Int := if fl.contains c then -1 else 1
theorem wC_in (fl : List Nat) (c : Nat) : wC fl c = 1 ∨ wC fl c = -1 := by unfold wC; split <;> simp
theorem fA_cons (fl : List Nat) (c : Nat) (l : List Nat) : fA fl (c :: l) = eC1 fl c * 3 ^ l.length + wC fl c * fA fl l := by
  simp only [fA, eC1, wC]
  split <;> grind
theorem fW_cons (fl : List Nat) (c : Nat) (l : List Nat) : fW fl (c :: l) = wC fl c * fW fl l := by
  simp only [fW, wC]
  split <;> grind
theorem fW_append (fl : List Nat) (m : List Nat) : ∀ l : List Nat, fW fl (l ++ m) = fW fl l * fW fl m
  | [] => by simp [fW]
  | c :: l => by rw [List.cons_append, fW_cons, fW_cons, fW_append fl m l]; grind
theorem fA_append (fl : List Nat) (m : List Nat) : ∀ l : List Nat, fA fl (l ++ m) = fA fl l * 3 ^ m.length + fW fl l * fA fl m
  | [] => by simp [fA, fW]
  | c :: l => by
    rw [List.cons_append, fA_cons, fA_cons, fW_cons, fA_append fl m l, List.length_append, Int.pow_add]
    grind
theorem fAW_in (fl : List Nat) : ∀ l : List Nat, 0 ≤ fA fl l + fW fl l ∧ fA fl l + fW fl l ≤ 3 ^ l.length
  | [] => by simp [fA, fW]
  | c :: l => by
    have ih := fAW_in fl l
    have h3 := pow3_pos l.length
    have hi := ix_in c
    have h4 : 0 ≤ ix c * 3 ^ l.length := Int.mul_nonneg hi.1 (Int.le_of_lt h3)
    have h5 : ix c * 3 ^ l.length ≤ 2 * 3 ^ l.length := Int.mul_le_mul_of_nonneg_right hi.2 (Int.le_of_lt h3)
    have h6 : (3 : Int) ^ (c :: l).length = 3 * 3 ^ l.length := by rw [List.length_cons, Int.pow_succ]; omega
    rw [h6]
    simp only [fA, fW]
    generalize ix c * 3 ^ l.length = a at *
    generalize (3 : Int) ^ l.length = b at *
    split <;> omega
/-- a ring read from i on -/
noncomputable def sq (xs : List Nat) (i k : Nat) : Nat := xs.getD ((i + k) % xs.length) 0
noncomputable def rd (xs : List Nat) (i : Nat) : List Nat := (List.range xs.length).map (sq xs i)
noncomputable def nA (fl xs : List Nat) (i : Nat) : Int := fA fl (rd xs i)
noncomputable def nB (fl xs : List Nat) (i : Nat) : Int := 3 ^ xs.length - fW fl (rd xs i)
theorem rd_len (xs : List Nat) (i : Nat) : (rd xs i).length = xs.length := by simp [rd]
theorem sq_succ (xs : List Nat) (i k : Nat) : sq xs i (k + 1) = sq xs (i + 1) k := by unfold sq; rw [show i + (k + 1) = i + 1 + k by omega]
theorem sq_turn (xs : List Nat) (i k : Nat) : sq xs i (k + xs.length) = sq xs i k := by unfold sq; rw [← Nat.add_assoc, Nat.add_mod_right]
theorem rd_cons {xs : List Nat} {n : Nat} (hn : xs.length = n + 1) (i : Nat) : rd xs i = sq xs i 0 :: (List.range n).map (sq xs (i + 1)) := by
  unfold rd
  rw [hn, List.range_succ_eq_map, List.map_cons, List.map_map]
  congr 1
  exact List.map_congr_left fun k _ => sq_succ xs i k
theorem rd_snoc {xs : List Nat} {n : Nat} (hn : xs.length = n + 1) (i : Nat) : rd xs (i + 1) = (List.range n).map (sq xs (i + 1)) ++ [sq xs i 0] := by
  unfold rd
  rw [hn, List.range_succ, List.map_append, List.map_singleton, ← sq_succ, ← hn, show xs.length = 0 + xs.length by omega, sq_turn]
theorem nB_const {fl xs : List Nat} (h1 : 1 ≤ xs.length) (i : Nat) : nB fl xs (i + 1) = nB fl xs i := by
  obtain ⟨n, hn⟩ : ∃ n, xs.length = n + 1 := ⟨xs.length - 1, by omega⟩
  unfold nB
  rw [rd_snoc hn i, rd_cons hn i, fW_cons, fW_append, fW_cons]
  simp only [fW]
  grind
theorem nA_rec {fl xs : List Nat} (h1 : 1 ≤ xs.length) (i : Nat) : 3 * nA fl xs i = eC1 fl (sq xs i 0) * nB fl xs i + wC fl (sq xs i 0) * nA fl xs (i + 1) := by
  obtain ⟨n, hn⟩ : ∃ n, xs.length = n + 1 := ⟨xs.length - 1, by omega⟩
  unfold nB nA
  rw [rd_cons hn, rd_snoc hn, fA_cons, fW_cons, fA_append, fA_cons, hn, Int.pow_succ]
  simp only [fA, List.length_map, List.length_range, List.length_nil, List.length_singleton]
  rcases wC_in fl (sq xs i 0) with h | h <;> rw [h] <;> grind
theorem nA_in {fl xs : List Nat} (h1 : 1 ≤ xs.length) (i : Nat) : 0 ≤ nA fl xs i ∧ nA fl xs i ≤ nB fl xs i ∧ 0 < nB fl xs i := by
  have a := fA_in fl (rd xs i)
  have b := fAW_in fl (rd xs i)
  have c := fW_in fl (rd xs i)
  rw [rd_len] at a b
  have d : (3 : Int) ≤ 3 ^ xs.length := by
    obtain ⟨n, hn⟩ : ∃ n, xs.length = n + 1 := ⟨xs.length - 1, by omega⟩
    have := pow3_pos n
    rw [hn, Int.pow_succ]; omega
  unfold nA nB
  omega
theorem nB_all {fl xs : List Nat} (h1 : 1 ≤ xs.length) : ∀ i, nB fl xs i = nB fl xs 0
  | 0 => rfl
  | i + 1 => by rw [nB_const h1, nB_all h1 i]
/-- at an end of the line: the figure is an outer one, and so on -/
theorem edge {fl xs : List Nat} (h1 : 1 ≤ xs.length) {i : Nat} (h : nA fl xs i = 0 ∨ nA fl xs i = nB fl xs i) : (ix (sq xs i 0) = 0 ∨ ix (sq xs i 0) = 2) ∧ (nA fl xs (i + 1) = 0 ∨ nA fl xs (i + 1) = nB fl xs (i + 1)) := by
  have r := nA_rec (fl := fl) h1 i
  have a := nA_in (fl := fl) h1 i
  have b := nA_in (fl := fl) h1 (i + 1)
  rw [nB_const h1] at b ⊢
  have hi := ix_in (sq xs i 0)
  unfold eC1 wC at r
  generalize nA fl xs (i + 1) = y at *
  generalize nA fl xs i = x at *
  generalize nB fl xs i = B at *
  generalize ix (sq xs i 0) = d at *
  have hd : d = 0 ∨ d = 1 ∨ d = 2 := by omega
  rcases hd with rfl | rfl | rfl <;> split at r <;> omega
theorem edge_all {fl xs : List Nat} (h1 : 1 ≤ xs.length) {i : Nat} (h : nA fl xs i = 0 ∨ nA fl xs i = nB fl xs i) : ∀ k, nA fl xs (i + k) = 0 ∨ nA fl xs (i + k) = nB fl xs (i + k)
  | 0 => h
  | k + 1 => (edge h1 (edge_all h1 h k)).2
theorem edge_back {fl xs : List Nat} (h1 : 1 ≤ xs.length) {i : Nat} (h : nA fl xs (i + 1) = 0 ∨ nA fl xs (i + 1) = nB fl xs (i + 1)) : ix (sq xs i 0) = 0 ∨ ix (sq xs i 0) = 2 := by
  have e := (edge h1 (edge_all h1 h (xs.length - 1))).1
  have e2 : sq xs (i + 1 + (xs.length - 1)) 0 = sq xs i 0 := by
    unfold sq
    rw [show i + 1 + (xs.length - 1) + 0 = i + 0 + xs.length by omega, Nat.add_mod_right]
  rw [e2] at e; exact e
/-- how two rows' fractions lie -/
noncomputable def dl (fl xs : List Nat) (i : Nat) (ys : List Nat) (j : Nat) : Int := nA fl xs i * nB fl ys j - nA fl ys j * nB fl xs i
theorem dl_step {fl xs ys : List Nat} (hx : 1 ≤ xs.length) (hy : 1 ≤ ys.length) {i j : Nat} (h : sq xs i 0 = sq ys j 0) : 3 * dl fl xs i ys j = wC fl (sq xs i 0) * dl fl xs (i + 1) ys (j + 1) := by
  have r1 := nA_rec (fl := fl) hx i
  have r2 := nA_rec (fl := fl) hy j
  unfold dl
  rw [nB_const hx, nB_const hy]
  rw [← h] at r2
  grind
theorem dl_part {fl xs ys : List Nat} (hx : 1 ≤ xs.length) (hy : 1 ≤ ys.length) {i j : Nat} (h : ix (sq xs i 0) < ix (sq ys j 0)) : dl fl xs i ys j < 0 := by
  have r1 := nA_rec (fl := fl) hx i
  have r2 := nA_rec (fl := fl) hy j
  have a1 := nA_in (fl := fl) hx i
  have a2 := nA_in (fl := fl) hy j
  have b1 := nA_in (fl := fl) hx (i + 1)
  have b2 := nA_in (fl := fl) hy (j + 1)
  have e1 := edge_back (fl := fl) (i := i) hx
  have e2 := edge_back (fl := fl) (i := j) hy
  rw [nB_const hx] at b1 e1
  rw [nB_const hy] at b2 e2
  have i1 := ix_in (sq xs i 0)
  have i2 := ix_in (sq ys j 0)
  unfold dl
  unfold eC1 wC at r1 r2
  generalize nA fl xs (i + 1) = x' at *
  generalize nA fl xs i = x at *
  generalize nB fl xs i = B at *
  generalize nA fl ys (j + 1) = y' at *
  generalize nA fl ys j = y at *
  generalize nB fl ys j = C at *
  generalize ix (sq xs i 0) = d at *
  generalize ix (sq ys j 0) = e at *
  have hxu : 3 * x ≤ (d + 1) * B := by
    have : d = 0 ∨ d = 1 := by omega
    rcases this with rfl | rfl <;> split at r1 <;> omega
  have hyl : (d + 1) * C ≤ 3 * y := by
    have hd : d = 0 ∨ d = 1 := by omega
    have he : e = 1 ∨ e = 2 := by omega
    rcases hd with rfl | rfl <;> rcases he with rfl | rfl <;> split at r2 <;> omega
  have hne : ¬ (3 * x = (d + 1) * B ∧ (d + 1) * C = 3 * y) := by
    rintro ⟨q1, q2⟩
    have hd : d = 0 ∨ d = 1 := by omega
    have he : e = 1 ∨ e = 2 := by omega
    rcases hd with rfl | rfl <;> rcases he with rfl | rfl <;> split at r1 <;> split at r2 <;> omega
  have m1 : 3 * x * C ≤ (d + 1) * B * C := Int.mul_le_mul_of_nonneg_right hxu (by omega)
  have m2 : (d + 1) * C * B ≤ 3 * y * B := Int.mul_le_mul_of_nonneg_right hyl (by omega)
  rcases Int.lt_or_eq_of_le hxu with hlt | heq
  · have m3 : 3 * x * C < (d + 1) * B * C := Int.mul_lt_mul_of_pos_right hlt a2.2.2
    grind
  · rcases Int.lt_or_eq_of_le hyl with hlt | heq2
    · have m3 : (d + 1) * C * B < 3 * y * B := Int.mul_lt_mul_of_pos_right hlt a1.2.2
      grind
    · exact absurd ⟨heq, heq2⟩ hne
theorem dl_anti (fl xs ys : List Nat) (i j : Nat) : dl fl ys j xs i = -dl fl xs i ys j := by unfold dl; grind
theorem sq_zero (xs : List Nat) (i n : Nat) : sq xs (i + n) 0 = sq xs i n := by unfold sq; rw [Nat.add_zero]
/-- two rows compared, by the way that the folding marks turn -/
noncomputable def scmp (fl : List Nat) : List Nat → List Nat → Int
  | c :: u, d :: v => if c < d then -1 else if d < c then 1 else wC fl c * scmp fl u v
  | _, _ => 0
theorem scmp_in (fl : List Nat) : ∀ u v : List Nat, scmp fl u v = -1 ∨ scmp fl u v = 0 ∨ scmp fl u v = 1
  | [], _ => .inr (.inl (by simp [scmp]))
  | _ :: _, [] => .inr (.inl (by simp [scmp]))
  | c :: u, d :: v => by
    have ih := scmp_in fl u v
    have hw := wC_in fl c
    simp only [scmp]
    split
    · exact .inl rfl
    · split
      · exact .inr (.inr rfl)
      · rcases hw with h | h <;> rw [h] <;> omega
theorem ix_lt {c d : Nat} (hc : isM c) (hd : isM d) : ix c < ix d ↔ c < d := by
  rcases hc with rfl | rfl | rfl <;> rcases hd with rfl | rfl | rfl <;> decide
noncomputable def rw7 (n : Nat) (xs : List Nat) (i : Nat) : List Nat := (List.range n).map (sq xs i)
theorem rw7_succ (n : Nat) (xs : List Nat) (i : Nat) : rw7 (n + 1) xs i = sq xs i 0 :: rw7 n xs (i + 1) := by
  unfold rw7
  rw [List.range_succ_eq_map, List.map_cons, List.map_map]
  congr 1
  exact List.map_congr_left fun k _ => sq_succ xs i k
theorem scmp_dl {fl xs ys : List Nat} (hx : 1 ≤ xs.length) (hy : 1 ≤ ys.length) (mx : ∀ i k, isM (sq xs i k)) (my : ∀ i k, isM (sq ys i k)) : ∀ n i j,
    (scmp fl (rw7 n xs i) (rw7 n ys j) < 0 → dl fl xs i ys j < 0) ∧ (0 < scmp fl (rw7 n xs i) (rw7 n ys j) → 0 < dl fl xs i ys j) ∧ (scmp fl (rw7 n xs i) (rw7 n ys j) = 0 → ∀ k, k < n → sq xs i k = sq ys j k)
  | 0, i, j => by
    simp only [rw7, List.range_zero, List.map_nil, scmp]
    exact ⟨fun h => absurd h (by decide), fun h => absurd h (by decide), fun _ k hk => absurd hk (Nat.not_lt_zero _)⟩
  | n + 1, i, j => by
    obtain ⟨a1, a2, a3⟩ := scmp_dl hx hy mx my n (i + 1) (j + 1)
    rw [rw7_succ, rw7_succ]
    simp only [scmp]
    by_cases h1 : sq xs i 0 < sq ys j 0
    · rw [if_pos h1]
      have := dl_part (fl := fl) hx hy ((ix_lt (mx i 0) (my j 0)).mpr h1)
      exact ⟨fun _ => this, fun h => absurd h (by decide), fun h => absurd h (by decide)⟩
    · rw [if_neg h1]
      by_cases h2 : sq ys j 0 < sq xs i 0
      · rw [if_pos h2]
        have := dl_part (fl := fl) hy hx ((ix_lt (my j 0) (mx i 0)).mpr h2)
        rw [dl_anti] at this
        exact ⟨fun h => absurd h (by decide), fun _ => by omega, fun h => absurd h (by decide)⟩
      · rw [if_neg h2]
        have he : sq xs i 0 = sq ys j 0 := by omega
        have st := dl_step (fl := fl) hx hy he
        have hs := scmp_in fl (rw7 n xs (i + 1)) (rw7 n ys (j + 1))
        have h0 : scmp fl (rw7 n xs (i + 1)) (rw7 n ys (j + 1)) = 0 → ∀ k, k < n + 1 → sq xs i k = sq ys j k := by
          intro hz k hk
          cases k with
          | zero => exact he
          | succ k => rw [sq_succ, sq_succ]; exact a3 hz k (by omega)
        rcases wC_in fl (sq xs i 0) with hw | hw <;> rw [hw] at st ⊢
        · refine ⟨fun h => ?_, fun h => ?_, fun h => h0 (by omega)⟩
          · have := a1 (by omega); omega
          · have := a2 (by omega); omega
        · refine ⟨fun h => ?_, fun h => ?_, fun h => h0 (by omega)⟩
          · have := a2 (by omega); omega
          · have := a1 (by omega); omega
theorem dl_same {fl xs : List Nat} (h7 : xs.length ≤ 7) {i j : Nat} (h : ∀ k, k < 7 → sq xs i k = sq xs j k) : dl fl xs i xs j = 0 := by
  have e : rd xs i = rd xs j := List.map_congr_left fun k hk => h k (by have := List.mem_range.mp hk; omega)
  unfold dl nA nB
  rw [e]; grind
theorem sq_mod (xs : List Nat) (i k : Nat) : sq xs i k = sq xs i (k % xs.length) := by unfold sq; rw [Nat.add_mod_mod]
theorem const_nA {fl xs : List Nat} {c i : Nat} (h1 : 1 ≤ xs.length) (h7 : xs.length ≤ 6) (h : ∀ k, k < 7 → sq xs i k = c) : 3 * nA fl xs i = eC1 fl c * nB fl xs i + wC fl c * nA fl xs i := by
  have hall : ∀ k, sq xs i k = c := fun k => by
    rw [sq_mod]; exact h _ (by have := Nat.mod_lt k (show 0 < xs.length by omega); omega)
  have e : rd xs (i + 1) = rd xs i := List.map_congr_left fun k _ => by rw [← sq_succ, hall, hall]
  have r := nA_rec (fl := fl) h1 i
  rw [hall] at r
  have e2 : nA fl xs (i + 1) = nA fl xs i := by unfold nA; rw [e]
  rw [e2] at r
  exact r
/-- two rings of seven marks in all: two rows that are alike in seven marks are of one mark -/
theorem fw_const {s : Nat → Nat} {p q : Nat} (hp : 1 ≤ p) (hq : 1 ≤ q) (hpq : p + q = 7) (h1 : ∀ k, k + p < 7 → s (k + p) = s k) (h2 : ∀ k, k + q < 7 → s (k + q) = s k) : ∀ k, k < 7 → s k = s 0 := by
  have hc : p = 1 ∨ p = 2 ∨ p = 3 ∨ p = 4 ∨ p = 5 ∨ p = 6 := by omega
  have key : s 1 = s 0 ∧ s 2 = s 0 ∧ s 3 = s 0 ∧ s 4 = s 0 ∧ s 5 = s 0 ∧ s 6 = s 0 := by
    rcases hc with rfl | rfl | rfl | rfl | rfl | rfl
    · obtain rfl : q = 6 := Nat.add_left_cancel hpq
      have a0 : s 1 = s 0 := h1 0 (by decide)
      have a1 : s 2 = s 1 := h1 1 (by decide)
      have a2 : s 3 = s 2 := h1 2 (by decide)
      have a3 : s 4 = s 3 := h1 3 (by decide)
      have a4 : s 5 = s 4 := h1 4 (by decide)
      have a5 : s 6 = s 5 := h1 5 (by decide)
      have b0 : s 6 = s 0 := h2 0 (by decide)
      have e1 : s 1 = s 0 := a0
      have e6 : s 6 = s 0 := b0
      have e2 : s 2 = s 0 := a1.trans e1
      have e5 : s 5 = s 0 := a5.symm.trans e6
      have e3 : s 3 = s 0 := a2.trans e2
      have e4 : s 4 = s 0 := a4.symm.trans e5
      exact ⟨e1, e2, e3, e4, e5, e6⟩
    · obtain rfl : q = 5 := Nat.add_left_cancel hpq
      have a0 : s 2 = s 0 := h1 0 (by decide)
      have a1 : s 3 = s 1 := h1 1 (by decide)
      have a2 : s 4 = s 2 := h1 2 (by decide)
      have a3 : s 5 = s 3 := h1 3 (by decide)
      have a4 : s 6 = s 4 := h1 4 (by decide)
      have b0 : s 5 = s 0 := h2 0 (by decide)
      have b1 : s 6 = s 1 := h2 1 (by decide)
      have e2 : s 2 = s 0 := a0
      have e5 : s 5 = s 0 := b0
      have e4 : s 4 = s 0 := a2.trans e2
      have e3 : s 3 = s 0 := a3.symm.trans e5
      have e6 : s 6 = s 0 := a4.trans e4
      have e1 : s 1 = s 0 := a1.symm.trans e3
      exact ⟨e1, e2, e3, e4, e5, e6⟩
    · obtain rfl : q = 4 := Nat.add_left_cancel hpq
      have a0 : s 3 = s 0 := h1 0 (by decide)
      have a1 : s 4 = s 1 := h1 1 (by decide)
      have a2 : s 5 = s 2 := h1 2 (by decide)
      have a3 : s 6 = s 3 := h1 3 (by decide)
      have b0 : s 4 = s 0 := h2 0 (by decide)
      have b1 : s 5 = s 1 := h2 1 (by decide)
      have b2 : s 6 = s 2 := h2 2 (by decide)
      have e3 : s 3 = s 0 := a0
      have e4 : s 4 = s 0 := b0
      have e6 : s 6 = s 0 := a3.trans e3
      have e1 : s 1 = s 0 := a1.symm.trans e4
      have e2 : s 2 = s 0 := b2.symm.trans e6
      have e5 : s 5 = s 0 := b1.trans e1
      exact ⟨e1, e2, e3, e4, e5, e6⟩
    · obtain rfl : q = 3 := Nat.add_left_cancel hpq
      have a0 : s 4 = s 0 := h1 0 (by decide)
      have a1 : s 5 = s 1 := h1 1 (by decide)
      have a2 : s 6 = s 2 := h1 2 (by decide)
      have b0 : s 3 = s 0 := h2 0 (by decide)
      have b1 : s 4 = s 1 := h2 1 (by decide)
      have b2 : s 5 = s 2 := h2 2 (by decide)
      have b3 : s 6 = s 3 := h2 3 (by decide)
      have e4 : s 4 = s 0 := a0
      have e3 : s 3 = s 0 := b0
      have e1 : s 1 = s 0 := b1.symm.trans e4
      have e6 : s 6 = s 0 := b3.trans e3
      have e5 : s 5 = s 0 := a1.trans e1
      have e2 : s 2 = s 0 := a2.symm.trans e6
      exact ⟨e1, e2, e3, e4, e5, e6⟩
    · obtain rfl : q = 2 := Nat.add_left_cancel hpq
      have a0 : s 5 = s 0 := h1 0 (by decide)
      have a1 : s 6 = s 1 := h1 1 (by decide)
      have b0 : s 2 = s 0 := h2 0 (by decide)
      have b1 : s 3 = s 1 := h2 1 (by decide)
      have b2 : s 4 = s 2 := h2 2 (by decide)
      have b3 : s 5 = s 3 := h2 3 (by decide)
      have b4 : s 6 = s 4 := h2 4 (by decide)
      have e5 : s 5 = s 0 := a0
      have e2 : s 2 = s 0 := b0
      have e3 : s 3 = s 0 := b3.symm.trans e5
      have e4 : s 4 = s 0 := b2.trans e2
      have e1 : s 1 = s 0 := b1.symm.trans e3
      have e6 : s 6 = s 0 := b4.trans e4
      exact ⟨e1, e2, e3, e4, e5, e6⟩
    · obtain rfl : q = 1 := Nat.add_left_cancel hpq
      have a0 : s 6 = s 0 := h1 0 (by decide)
      have b0 : s 1 = s 0 := h2 0 (by decide)
      have b1 : s 2 = s 1 := h2 1 (by decide)
      have b2 : s 3 = s 2 := h2 2 (by decide)
      have b3 : s 4 = s 3 := h2 3 (by decide)
      have b4 : s 5 = s 4 := h2 4 (by decide)
      have b5 : s 6 = s 5 := h2 5 (by decide)
      have e6 : s 6 = s 0 := a0
      have e1 : s 1 = s 0 := b0
      have e5 : s 5 = s 0 := b5.symm.trans e6
      have e2 : s 2 = s 0 := b1.trans e1
      have e4 : s 4 = s 0 := b4.symm.trans e5
      have e3 : s 3 = s 0 := b2.trans e2
      exact ⟨e1, e2, e3, e4, e5, e6⟩
  obtain ⟨e1, e2, e3, e4, e5, e6⟩ := key
  intro k hk
  rcases k with _ | _ | _ | _ | _ | _ | _ | k
  · rfl
  · exact e1
  · exact e2
  · exact e3
  · exact e4
  · exact e5
  · exact e6
  · exact absurd hk (Nat.not_lt.mpr (Nat.le_add_left 7 k))
theorem dl_two {fl xs ys : List Nat} (hx : 1 ≤ xs.length) (hy : 1 ≤ ys.length) (hxy : xs.length + ys.length = 7) {i j : Nat} (h : ∀ k, k < 7 → sq xs i k = sq ys j k) : dl fl xs i ys j = 0 := by
  have hc : ∀ k, k < 7 → sq xs i k = sq xs i 0 := fw_const hx hy hxy (fun k hk => by rw [sq_turn]) (fun k hk => by rw [h _ hk, sq_turn, ← h k (by omega)])
  have a := const_nA (fl := fl) hx (by omega) hc
  have b := const_nA (fl := fl) (xs := ys) (c := sq xs i 0) (i := j) hy (by omega) (fun k hk => by rw [← h k hk]; exact hc k hk)
  unfold dl
  have hw := wC_in fl (sq xs i 0)
  have key : (3 - wC fl (sq xs i 0)) * (nA fl xs i * nB fl ys j - nA fl ys j * nB fl xs i) = 0 := by grind
  rcases hw with hw | hw <;> rw [hw] at key <;> omega
/-- the order of the fractions is the signed order of the rows -/
theorem dl_iff {fl xs ys : List Nat} (hx : 1 ≤ xs.length) (hy : 1 ≤ ys.length) (mx : ∀ i k, isM (sq xs i k)) (my : ∀ i k, isM (sq ys i k)) {i j : Nat} (h0 : (∀ k, k < 7 → sq xs i k = sq ys j k) → dl fl xs i ys j = 0) :
    (dl fl xs i ys j < 0 ↔ scmp fl (rw7 7 xs i) (rw7 7 ys j) < 0) ∧ (dl fl xs i ys j = 0 ↔ scmp fl (rw7 7 xs i) (rw7 7 ys j) = 0) := by
  obtain ⟨a1, a2, a3⟩ := scmp_dl (fl := fl) hx hy mx my 7 i j
  have hs := scmp_in fl (rw7 7 xs i) (rw7 7 ys j)
  rcases hs with h | h | h
  · have := a1 (by omega); omega
  · have := h0 (a3 h); omega
  · have := a2 (by omega); omega
/-! the plain law: the table's order against the counts -/
theorem filter_split {α : Type} {p q r : α → Bool} : ∀ {l : List α}, (∀ k ∈ l, r k = (p k || q k)) → (∀ k ∈ l, ¬ (p k = true ∧ q k = true)) → (l.filter r).length = (l.filter p).length + (l.filter q).length
  | [], _, _ => rfl
  | k :: l, h1, h2 => by
    have ih := filter_split (l := l) (fun j hj => h1 j (List.mem_cons_of_mem _ hj)) (fun j hj => h2 j (List.mem_cons_of_mem _ hj))
    have a := h1 k List.mem_cons_self
    have b := h2 k List.mem_cons_self
    simp only [List.filter_cons, a]
    cases hp : p k <;> cases hq : q k <;> simp_all <;> omega
theorem filter_cut {ks : List Nat} {P : Nat → Bool} {r : Nat} (hr : r ≤ ks.length) (h1 : ∀ j, j < r → P (ks.getD j 0) = true) (h2 : ∀ j, r ≤ j → j < ks.length → P (ks.getD j 0) = false) : (ks.filter P).length = r := by
  have e : ks = ks.take r ++ ks.drop r := (List.take_append_drop r ks).symm
  rw [e, List.filter_append, List.length_append]
  have a : (ks.take r).filter P = ks.take r := List.filter_eq_self.mpr fun k hk => by
    obtain ⟨j, hj, rfl⟩ := List.getElem_of_mem hk
    rw [List.length_take] at hj
    have := h1 j (by omega)
    rw [getD_at (by omega)] at this
    rw [List.getElem_take]; exact this
  have b : (ks.drop r).filter P = [] := List.filter_eq_nil_iff.mpr fun k hk => by
    obtain ⟨j, hj, rfl⟩ := List.getElem_of_mem hk
    rw [List.length_drop] at hj
    have := h2 (r + j) (by omega) (by omega)
    rw [getD_at (by omega)] at this
    rw [List.getElem_drop, this]; exact Bool.false_ne_true
  rw [a, b, List.length_take, List.length_nil]
  omega
theorem relS_irrefl (x : Nat → List Nat) (a : Nat) : ¬ relS x a a := by
  rintro (h | ⟨_, h⟩)
  · exact List.lt_irrefl _ h
  · exact Nat.lt_irrefl _ h
theorem relS_asymm {x : Nat → List Nat} {a b : Nat} (h : relS x a b) : ¬ relS x b a := by
  rintro (g | ⟨e, g⟩)
  · rcases h with h | ⟨e, _⟩
    · exact List.lt_irrefl _ (List.lt_trans h g)
    · rw [e] at g; exact List.lt_irrefl _ g
  · rcases h with h | ⟨_, h⟩
    · rw [e] at h; exact List.lt_irrefl _ h
    · exact absurd (Nat.lt_trans h g) (Nat.lt_irrefl _)
section
variable {x : Nat → List Nat} {ks : List Nat}
theorem TabOk.count (h : TabOk x 7 ks) (P : Nat → Bool) : (ks.filter P).length = ((List.range 7).filter P).length := (h.2.filter P).length_eq
theorem TabOk.at (h : TabOk x 7 ks) {p : Nat} (hp : p < 7) : ((List.range 7).filter fun k => decide (relS x k (ks.getD p 0))).length = p := by
  have hl := h.len
  rw [← h.count]
  refine filter_cut (by omega) (fun j hj => ?_) (fun j hj hj2 => ?_)
  · rw [getD_at (by omega), getD_at (by omega)]
    exact decide_eq_true (List.pairwise_iff_getElem.mp h.1 j p (by omega) (by omega) hj)
  · rw [getD_at (by omega), getD_at (by omega)]
    refine decide_eq_false ?_
    rcases Nat.lt_or_eq_of_le hj with h1 | rfl
    · exact relS_asymm (List.pairwise_iff_getElem.mp h.1 p j (by omega) (by omega) h1)
    · exact relS_irrefl _ _
theorem TabOk.has (h : TabOk x 7 ks) {i : Nat} (hi : i < 7) : ∃ p, p < 7 ∧ ks.getD p 0 = i := by
  have hm : i ∈ ks := h.2.mem_iff.mpr (List.mem_range.mpr hi)
  obtain ⟨p, hp, e⟩ := List.getElem_of_mem hm
  exact ⟨p, by have := h.len; omega, by rw [getD_at hp]; exact e⟩
theorem TabOk.lt7 (h : TabOk x 7 ks) {p : Nat} (hp : p < 7) : ks.getD p 0 < 7 := by
  have hl := h.len
  rw [getD_at (by omega)]
  exact List.mem_range.mp (h.2.mem_iff.mp (List.getElem_mem _))
/-- a row's place in the table -/
theorem TabOk.place (h : TabOk x 7 ks) {i : Nat} (hi : i < 7) :
    ((List.range 7).filter fun k => decide (x k < x i)).length + ((((List.range 7).filter fun k => decide (x k = x i)).map Int.ofNat).filter fun j => decide ((i : Int) < j)).length < 7 ∧
    ks.getD (((List.range 7).filter fun k => decide (x k < x i)).length + ((((List.range 7).filter fun k => decide (x k = x i)).map Int.ofNat).filter fun j => decide ((i : Int) < j)).length) 0 = i := by
  obtain ⟨p, hp, e⟩ := h.has hi
  have hc := h.at hp
  rw [e] at hc
  have hs := filter_split (l := List.range 7) (r := fun k => decide (relS x k i)) (p := fun k => decide (x k < x i)) (q := fun k => decide (x k = x i) && decide (i < k))
    (fun k _ => by rw [← Bool.decide_and, ← Bool.decide_or]) (fun k _ hk => by
      obtain ⟨h1, h2⟩ := hk
      simp only [decide_eq_true_eq, Bool.and_eq_true] at h1 h2
      rw [h2.1] at h1; exact List.lt_irrefl _ h1)
  have hq : ((((List.range 7).filter fun k => decide (x k = x i)).map Int.ofNat).filter fun j => decide ((i : Int) < j)).length = ((List.range 7).filter fun k => decide (x k = x i) && decide (i < k)).length := by
    rw [List.filter_map, List.length_map, List.filter_filter]
    congr 1
    refine List.filter_congr fun k _ => ?_
    rw [Bool.and_comm]
    congr 1
    simp only [Function.comp, Int.ofNat_eq_natCast, Int.ofNat_lt]
  rw [hq, ← hs, hc]
  exact ⟨hp, e⟩
theorem not_lt_mono (h : TabOk x 7 ks) {i a c : Nat} (hac : a < c) (hc : c < 7) (hx : ¬ x i < x (ks.getD c 0)) : ¬ x i < x (ks.getD a 0) := by
  have hl := h.len
  rw [getD_at (by omega)] at hx ⊢
  intro g
  rcases List.pairwise_iff_getElem.mp h.1 a c (by omega) (by omega) hac with h1 | ⟨h1, _⟩
  · exact hx (List.lt_trans g h1)
  · rw [h1] at g; exact hx g
theorem TabOk.bounds (h : TabOk x 7 ks) {i r1 r2 : Nat} {c : Nat → Int} (hi : i < 7) (h1 : ∀ a, a < 7 → (c a < 0 ↔ x (ks.getD a 0) < x i)) (h2 : ∀ a, a < 7 → (0 < c a ↔ x i < x (ks.getD a 0))) (hb : BndIn c r1 r2) :
    r1 = ((List.range 7).filter fun k => decide (x k < x i)).length ∧ r2 = ((List.range 7).filter fun k => decide (x k < x i)).length + ((List.range 7).filter fun k => decide (x k = x i)).length := by
  have hl := h.len
  obtain ⟨b1, b2, b3, b4, b5, b6⟩ := hb
  constructor
  · rw [← h.count]
    refine (filter_cut (by omega) (fun j hj => ?_) (fun j hj hj2 => ?_)).symm
    · exact decide_eq_true ((h1 j (by omega)).mp (b3 j hj))
    · exact decide_eq_false fun g => b4 j hj (by omega) ((h1 j (by omega)).mpr g)
  · have hs := filter_split (l := List.range 7) (r := fun k => decide (¬ x i < x k)) (p := fun k => decide (x k < x i)) (q := fun k => decide (x k = x i))
      (fun k _ => by
        rw [← Bool.decide_or]
        refine decide_eq_decide.mpr ⟨fun g => ?_, fun g => ?_⟩
        · by_cases e : x k < x i
          · exact .inl e
          · exact .inr (List.le_antisymm (List.not_lt.mp g) (List.not_lt.mp e))
        · rcases g with g | g
          · exact fun e => List.lt_irrefl _ (List.lt_trans g e)
          · rw [g]; exact List.lt_irrefl _) (fun k _ hk => by
      obtain ⟨g1, g2⟩ := hk
      simp only [decide_eq_true_eq] at g1 g2
      rw [g2] at g1; exact List.lt_irrefl _ g1)
    rw [← hs, ← h.count]
    refine (filter_cut (by omega) (fun j hj => ?_) (fun j hj hj2 => ?_)).symm
    · exact decide_eq_true fun g => b5 j hj ((h2 j (by omega)).mpr g)
    · exact decide_eq_false fun g => g ((h2 j (by omega)).mp (b6 j hj (by omega)))
end
theorem app_lt (P x y : List Nat) : P ++ x < P ++ y ↔ x < y := by
  induction P with
  | nil => exact Iff.rfl
  | cons a P ih => rw [List.cons_append, List.cons_append, List.cons_lt_cons_iff]; simp [ih]
theorem chain7_q : chain7 [34] = [38, 113, 117, 111, 116, 59] := by decide
theorem chain7_l : chain7 [60] = [38, 108, 116, 59] := by decide
theorem chain7_g : chain7 [62] = [38, 103, 116, 59] := by decide
/-- the heads of two rows' dresses decide, where the marks differ -/
theorem head_bare {c d : Nat} {x y : List Nat} (h : c < d) : ([c] ++ x < [d] ++ y ↔ True) ∧ ([d] ++ x < [c] ++ y ↔ False) ∧ ([c] ++ x = [d] ++ y ↔ False) ∧ ([d] ++ x = [c] ++ y ↔ False) := by
  refine ⟨⟨fun _ => trivial, fun _ => ?_⟩, ⟨fun g => ?_, False.elim⟩, ⟨fun g => ?_, False.elim⟩, ⟨fun g => ?_, False.elim⟩⟩
  · exact List.cons_lt_cons_iff.mpr (.inl h)
  · rcases List.cons_lt_cons_iff.mp g with g | ⟨g, _⟩ <;> omega
  · have := (List.cons.inj g).1; omega
  · have := (List.cons.inj g).1; omega
theorem head_hid {c d : Nat} {x y : List Nat} (hc : isM c) (hd : isM d) (h : c < d) : (chain7 [c] ++ x < chain7 [d] ++ y ↔ False) ∧ (chain7 [d] ++ x < chain7 [c] ++ y ↔ True) ∧ (chain7 [c] ++ x = chain7 [d] ++ y ↔ False) ∧ (chain7 [d] ++ x = chain7 [c] ++ y ↔ False) := by
  have hcd : (c = 34 ∧ d = 60) ∨ (c = 34 ∧ d = 62) ∨ (c = 60 ∧ d = 62) := by
    rcases hc with rfl | rfl | rfl <;> rcases hd with rfl | rfl | rfl <;> omega
  rcases hcd with ⟨rfl, rfl⟩ | ⟨rfl, rfl⟩ | ⟨rfl, rfl⟩ <;> simp only [chain7_q, chain7_l, chain7_g, List.cons_append, List.nil_append, List.cons_lt_cons_iff] <;> simp
theorem drL_scmp (fl : List Nat) : ∀ (u v : List Nat), u.length = v.length → (∀ c ∈ u, isM c) → (∀ c ∈ v, isM c) →
    ((drL fl false u < drL fl false v ↔ scmp fl u v < 0) ∧ (drL fl false u = drL fl false v ↔ scmp fl u v = 0)) ∧ ((drL fl true u < drL fl true v ↔ 0 < scmp fl u v) ∧ (drL fl true u = drL fl true v ↔ scmp fl u v = 0))
  | [], [], _, _, _ => by simp [drL, scmp]
  | [], _ :: _, h, _, _ => by simp at h
  | _ :: _, [], h, _, _ => by simp at h
  | c :: u, d :: v, h, hu, hv => by
    have ih := drL_scmp fl u v (by simpa using h) (fun k hk => hu k (List.mem_cons_of_mem _ hk)) (fun k hk => hv k (List.mem_cons_of_mem _ hk))
    have hc := hu c List.mem_cons_self
    have hd := hv d List.mem_cons_self
    simp only [drL, scmp]
    by_cases h1 : c < d
    · rw [if_pos h1]
      obtain ⟨a1, a2, a3, a4⟩ := head_bare (x := drL fl (false != fl.contains c) u) (y := drL fl (false != fl.contains d) v) h1
      obtain ⟨b1, b2, b3, b4⟩ := head_hid (x := drL fl (true != fl.contains c) u) (y := drL fl (true != fl.contains d) v) hc hd h1
      simp only [if_true, Bool.false_eq_true, if_false, a1, a3, b1, b3]
      decide
    · rw [if_neg h1]
      by_cases h2 : d < c
      · rw [if_pos h2]
        obtain ⟨a1, a2, a3, a4⟩ := head_bare (x := drL fl (false != fl.contains c) u) (y := drL fl (false != fl.contains d) v) h2
        obtain ⟨b1, b2, b3, b4⟩ := head_hid (x := drL fl (true != fl.contains c) u) (y := drL fl (true != fl.contains d) v) hd hc h2
        simp only [if_true, Bool.false_eq_true, if_false, a2, a4, b2, b4]
        decide
      · rw [if_neg h2]
        obtain rfl : c = d := by omega
        obtain ⟨⟨i1, i2⟩, i3, i4⟩ := ih
        simp only [if_true, Bool.false_eq_true, if_false, app_lt, List.append_cancel_left_eq]
        unfold wC
        cases hf : fl.contains c
        · simp only [Bool.false_eq_true, if_false, Bool.bne_false, i1, i2, i3, i4, Int.one_mul, and_self]
        · simp only [if_true, Bool.bne_true, Bool.not_false, Bool.not_true, i1, i2, i3, i4]
          omega
theorem wS_wC (fl l : List Nat) (c : Nat) : wS fl (l ++ [c]) = wS fl l * wC fl c := by
  rw [wS_snoc]; unfold wC
  split <;> omega
theorem cmpB_step {fl : List Nat} {a b : Array UInt8} {n m : Nat} (ha : a.size = n) (hb : b.size = n) (hm : m < n) {r : List Int} (ih : cmpB fl (bN b) a b r = wS fl ((bN b).take (m + 1)) * scmp fl ((bN a).drop (m + 1)) ((bN b).drop (m + 1))) :
    cmpB fl (bN b) a b ((m : Int) :: r) = wS fl ((bN b).take m) * scmp fl ((bN a).drop m) ((bN b).drop m) := by
  have la : m < (bN a).length := by rw [bN_len, ha]; exact hm
  have lb : m < (bN b).length := by rw [bN_len, hb]; exact hm
  have da : (bN a).drop m = (bN a)[m] :: (bN a).drop (m + 1) := List.drop_eq_getElem_cons la
  have db : (bN b).drop m = (bN b)[m] :: (bN b).drop (m + 1) := List.drop_eq_getElem_cons lb
  have tb : (bN b).take (m + 1) = (bN b).take m ++ [(bN b)[m]] := (List.take_append_getElem lb).symm
  have ea : bA a (m : Int) = ((bN a)[m] : Nat) := by unfold bA; rw [Int.toNat_natCast, getD_at la]
  have eb : bA b (m : Int) = ((bN b)[m] : Nat) := by unfold bA; rw [Int.toNat_natCast, getD_at lb]
  rw [cmpB, ea, eb, ih, da, db, scmp, Int.toNat_natCast, tb, wS_wC]
  generalize (bN a)[m] = x
  generalize (bN b)[m] = y
  generalize scmp fl ((bN a).drop (m + 1)) ((bN b).drop (m + 1)) = z
  generalize wS fl ((bN b).take m) = q
  by_cases h1 : x < y
  · rw [if_pos (by omega), if_pos h1]; omega
  · rw [if_neg (by omega), if_neg h1]
    by_cases h2 : y < x
    · rw [if_pos (by omega), if_pos h2]; omega
    · rw [if_neg (by omega), if_neg h2]
      obtain rfl : x = y := by omega
      rw [Int.mul_assoc]
theorem cmpB_scmp {fl : List Nat} {a b : Array UInt8} (ha : a.size = 7) (hb : b.size = 7) : cmpB fl (bN b) a b [0, 1, 2, 3, 4, 5, 6] = scmp fl (bN a) (bN b) := by
  have e7 : cmpB fl (bN b) a b [] = wS fl ((bN b).take 7) * scmp fl ((bN a).drop 7) ((bN b).drop 7) := by
    rw [List.drop_of_length_le (by rw [bN_len, ha]; exact Nat.le_refl 7)]
    simp [cmpB, scmp]
  have e6 := cmpB_step (m := 6) ha hb (by decide) e7
  have e5 := cmpB_step (m := 5) ha hb (by decide) e6
  have e4 := cmpB_step (m := 4) ha hb (by decide) e5
  have e3 := cmpB_step (m := 3) ha hb (by decide) e4
  have e2 := cmpB_step (m := 2) ha hb (by decide) e3
  have e1 := cmpB_step (m := 1) ha hb (by decide) e2
  have e0 := cmpB_step (m := 0) ha hb (by decide) e1
  have hw : wS fl ((bN b).take 0) = 1 := rfl
  rw [hw, Int.one_mul, List.drop_zero, List.drop_zero] at e0
  exact e0
theorem rowsR_at (x : Str) : ∀ (n k t : Nat), k < n → t < 7 → (rowsR x n)[7 * k + t]? = some ((chM x (k : Int) (6 - (t : Int)) : Nat) : Int)
  | 0, _, _, h, _ => absurd h (Nat.not_lt_zero _)
  | n + 1, k, t, hk, ht => by
    rw [rowsR_snoc]
    by_cases h : k < n
    · rw [List.getElem?_append_left (by rw [rowsR_len]; omega)]
      exact rowsR_at x n k t h ht
    · obtain rfl : k = n := by omega
      rw [List.getElem?_append_right (by rw [rowsR_len]; omega), rowsR_len, show 7 * k + t - 7 * k = t by omega]
      unfold rowR
      rw [List.getElem?_map, List.getElem?_range ht]; rfl
theorem chM_sq {x : Str} (h : 0 < x.length) (i k : Nat) : chM x (i : Int) (k : Int) = sq x.cps.toList i k := by
  show chA x (((i : Int) + (k : Int)).fmod x.length) = _
  unfold chA sq
  have e : ((i : Int) + (k : Int)).fmod x.length = (((i + k) % x.length : Nat) : Int) := by
    rw [Int.fmod_eq_emod_of_nonneg _ (by omega)]; push_cast; rfl
  rw [e, Int.toNat_natCast]; rfl
theorem frc_nAB {fs x : Str} (h : 0 < x.length) (k : Nat) : frc fs x k = (nA fs.cps.toList x.cps.toList k, nB fs.cps.toList x.cps.toList k) := by
  have e : (List.range x.length).map (fun (i : Nat) => chM x (k : Int) (i : Int)) = rd x.cps.toList k := by
    unfold rd
    exact List.map_congr_left fun i _ => chM_sq h k i
  unfold frc nA nB
  rw [e]; rfl
/-- the ring of a row, and where it begins -/
noncomputable def RG (r1 r2 : Str) (k : Nat) : List Nat × Nat := if k < r1.length then (r1.cps.toList, k) else (r2.cps.toList, k - r1.length)
section
variable {r1 r2 : Str} {b : Array UInt8}
theorem row_at (h1 : 0 < r1.length) (h2 : 0 < r2.length) (h7 : r1.length + r2.length = 7) (hb : (bN b).map (fun (n : Nat) => (n : Int)) = rowsR r1 r1.length ++ rowsR r2 r2.length) {k : Nat} (hk : k < 7) {c : Array UInt8} (hc : RowAt b k c) :
    bN c = rw7 7 (RG r1 r2 k).1 (RG r1 r2 k).2 := by
  obtain ⟨hs, hc⟩ := hc
  have hl : (bN c).length = 7 := by rw [bN_len, hs]
  refine List.ext_getElem (by rw [hl]; simp [rw7]) fun j hj _ => ?_
  have hj7 : j < 7 := by omega
  have e1 := hc j hj7
  rw [getD_at hj] at e1
  rw [e1]
  have e2 : ∀ m v : Nat, ((rowsR r1 r1.length ++ rowsR r2 r2.length)[m]? = some ((v : Nat) : Int)) → (bN b).getD m 0 = v := fun m v e => by
    rw [← hb, List.getElem?_map] at e
    rw [List.getD_eq_getElem?_getD]
    cases h : (bN b)[m]? with
    | none => rw [h] at e; cases e
    | some y =>
      rw [h] at e
      have this : ((y : Nat) : Int) = (v : Nat) := Option.some.inj e
      simp only [Option.getD_some]
      omega
  refine e2 _ _ ?_
  have et : 7 * k + 6 - j = 7 * k + (6 - j) := by omega
  rw [et]
  have e3 : (rw7 7 (RG r1 r2 k).1 (RG r1 r2 k).2)[j]'(by simp [rw7]; exact hj7) = sq (RG r1 r2 k).1 (RG r1 r2 k).2 j := by simp [rw7]
  rw [e3]
  have e4 : (6 : Int) - ((6 - j : Nat) : Int) = (j : Nat) := by omega
  unfold RG
  by_cases hk1 : k < r1.length
  · rw [if_pos hk1, List.getElem?_append_left (by rw [rowsR_len]; omega), rowsR_at r1 _ k (6 - j) hk1 (by omega), e4, chM_sq h1]
  · rw [if_neg hk1, List.getElem?_append_right (by rw [rowsR_len]; omega), rowsR_len, show 7 * k + (6 - j) - 7 * r1.length = 7 * (k - r1.length) + (6 - j) by omega, rowsR_at r2 _ (k - r1.length) (6 - j) (by omega) (by omega), e4, chM_sq h2]
theorem frcs_at {fs : Str} (h1 : 0 < r1.length) (h2 : 0 < r2.length) (h7 : r1.length + r2.length = 7) {k : Nat} (hk : k < 7) :
    (frcs fs r1 r1.length ++ frcs fs r2 r2.length).getD k (0, 0) = (nA fs.cps.toList (RG r1 r2 k).1 (RG r1 r2 k).2, nB fs.cps.toList (RG r1 r2 k).1 (RG r1 r2 k).2) := by
  have hl : (frcs fs r1 r1.length).length = r1.length := by simp [frcs]
  rw [List.getD_eq_getElem?_getD]
  unfold RG
  by_cases hk1 : k < r1.length
  · rw [if_pos hk1, List.getElem?_append_left (by omega)]
    unfold frcs
    rw [List.getElem?_map, List.getElem?_range hk1]
    exact frc_nAB h1 k
  · rw [if_neg hk1, List.getElem?_append_right (by omega), hl]
    unfold frcs
    rw [List.getElem?_map, List.getElem?_range (by omega)]
    exact frc_nAB h2 _
theorem RG_in (h1 : 0 < r1.length) (h2 : 0 < r2.length) (h7 : r1.length + r2.length = 7) (k : Nat) : 1 ≤ (RG r1 r2 k).1.length ∧ (RG r1 r2 k).1.length ≤ 6 := by
  have l1 : r1.cps.toList.length = r1.length := rfl
  have l2 : r2.cps.toList.length = r2.length := rfl
  unfold RG; split <;> dsimp only <;> omega
theorem RG_isM (h1 : 0 < r1.length) (h2 : 0 < r2.length) (m1 : ∀ x ∈ r1.cps.toList, isM x) (m2 : ∀ x ∈ r2.cps.toList, isM x) (k i j : Nat) : isM (sq (RG r1 r2 k).1 i j) := by
  have key : ∀ l : List Nat, 0 < l.length → (∀ x ∈ l, isM x) → isM (sq l i j) := fun l hl hm => by
    unfold sq
    rw [getD_at (Nat.mod_lt _ hl)]
    exact hm _ (List.getElem_mem _)
  unfold RG; split
  · exact key _ h1 m1
  · exact key _ h2 m2
theorem RG_zero {fl : List Nat} (h1 : 0 < r1.length) (h2 : 0 < r2.length) (h7 : r1.length + r2.length = 7) (k i : Nat) (h : ∀ j, j < 7 → sq (RG r1 r2 k).1 (RG r1 r2 k).2 j = sq (RG r1 r2 i).1 (RG r1 r2 i).2 j) :
    dl fl (RG r1 r2 k).1 (RG r1 r2 k).2 (RG r1 r2 i).1 (RG r1 r2 i).2 = 0 := by
  have l1 : r1.cps.toList.length = r1.length := rfl
  have l2 : r2.cps.toList.length = r2.length := rfl
  revert h
  unfold RG
  split <;> split <;> intro h <;> dsimp only at h ⊢
  · exact dl_same (by omega) h
  · exact dl_two (by omega) (by omega) (by omega) h
  · exact dl_two (by omega) (by omega) (by omega) h
  · exact dl_same (by omega) h
end
theorem plain_ok {fs r1 r2 : Str} {b : Array UInt8} {A B : Nat → Int} {c : Nat → Array UInt8} {ks : List Nat} (h1 : 0 < r1.length) (h2 : 0 < r2.length) (h7 : r1.length + r2.length = 7) (m1 : ∀ x ∈ r1.cps.toList, isM x) (m2 : ∀ x ∈ r2.cps.toList, isM x)
    (hb : (bN b).map (fun (n : Nat) => (n : Int)) = rowsR r1 r1.length ++ rowsR r2 r2.length) (hc : ∀ k, k < 7 → RowAt b k (c k)) (hAB : ∀ k, k < 7 → (A k, B k) = (frcs fs r1 r1.length ++ frcs fs r2 r2.length).getD k (0, 0))
    (hT : TabOk (drS fun k => dressOf fs (c k)) 7 ks) :
    (∀ k, k < 7 → 0 ≤ A k ∧ A k ≤ 800 ∧ 0 ≤ B k ∧ B k ≤ 800) ∧ ∀ i, i < 7 → PlaceOk fs A B (fun k => dressOf fs (c k)) c (fun j => ks.getD j 0) i := by
  have hA : ∀ k, k < 7 → A k = nA fs.cps.toList (RG r1 r2 k).1 (RG r1 r2 k).2 := fun k hk => by have := hAB k hk; rw [frcs_at h1 h2 h7 hk] at this; exact (Prod.mk.inj this).1
  have hB : ∀ k, k < 7 → B k = nB fs.cps.toList (RG r1 r2 k).1 (RG r1 r2 k).2 := fun k hk => by have := hAB k hk; rw [frcs_at h1 h2 h7 hk] at this; exact (Prod.mk.inj this).2
  have hrow : ∀ k, k < 7 → bN (c k) = rw7 7 (RG r1 r2 k).1 (RG r1 r2 k).2 := fun k hk => row_at h1 h2 h7 hb hk (hc k hk)
  have hM : ∀ k, k < 7 → ∀ x ∈ bN (c k), isM x := fun k hk x hx => by
    rw [hrow k hk] at hx
    obtain ⟨j, _, rfl⟩ := List.mem_map.mp hx
    exact RG_isM h1 h2 m1 m2 k _ _
  have hlen : ∀ k, k < 7 → (bN (c k)).length = 7 := fun k hk => by rw [bN_len]; exact (hc k hk).1
  have hF : ∀ k i, k < 7 → i < 7 → (A k * B i < A i * B k ↔ scmp fs.cps.toList (bN (c k)) (bN (c i)) < 0) ∧ (A k * B i = A i * B k ↔ scmp fs.cps.toList (bN (c k)) (bN (c i)) = 0) := fun k i hk hi => by
    have d := dl_iff (fl := fs.cps.toList) (i := (RG r1 r2 k).2) (j := (RG r1 r2 i).2) (RG_in h1 h2 h7 k).1 (RG_in h1 h2 h7 i).1 (RG_isM h1 h2 m1 m2 k) (RG_isM h1 h2 m1 m2 i) (RG_zero h1 h2 h7 k i)
    rw [← hrow k hk, ← hrow i hi] at d
    unfold dl at d
    rw [← hA k hk, ← hB k hk, ← hA i hi, ← hB i hi] at d
    refine ⟨⟨fun g => d.1.mp (by omega), fun g => by have := d.1.mpr g; omega⟩, ⟨fun g => d.2.mp (by omega), fun g => by have := d.2.mpr g; omega⟩⟩
  have hD : ∀ k i, k < 7 → i < 7 → ((drS fun k => dressOf fs (c k)) k < (drS fun k => dressOf fs (c k)) i ↔ scmp fs.cps.toList (bN (c k)) (bN (c i)) < 0) ∧ ((drS fun k => dressOf fs (c k)) k = (drS fun k => dressOf fs (c k)) i ↔ scmp fs.cps.toList (bN (c k)) (bN (c i)) = 0) := fun k i hk hi =>
    (drL_scmp fs.cps.toList (bN (c k)) (bN (c i)) (by rw [hlen k hk, hlen i hi]) (hM k hk) (hM i hi)).1
  have hC : ∀ k i, k < 7 → i < 7 → cmpR fs (c i) c k = scmp fs.cps.toList (bN (c k)) (bN (c i)) := fun k i hk hi => cmpB_scmp (hc k hk).1 (hc i hi).1
  have hlt : ∀ k i, k < 7 → i < 7 → (A k * B i < A i * B k ↔ (drS fun k => dressOf fs (c k)) k < (drS fun k => dressOf fs (c k)) i) := fun k i hk hi => (hF k i hk hi).1.trans (hD k i hk hi).1.symm
  have heq : ∀ k i, k < 7 → i < 7 → (A k * B i = A i * B k ↔ (drS fun k => dressOf fs (c k)) k = (drS fun k => dressOf fs (c k)) i) := fun k i hk hi => (hF k i hk hi).2.trans (hD k i hk hi).2.symm
  have hn : ∀ k i, k < 7 → i < 7 → (cmpR fs (c i) c k < 0 ↔ (drS fun k => dressOf fs (c k)) k < (drS fun k => dressOf fs (c k)) i) := fun k i hk hi => by rw [hC k i hk hi]; exact (hD k i hk hi).1.symm
  have hp : ∀ k i, k < 7 → i < 7 → (0 < cmpR fs (c i) c k ↔ (drS fun k => dressOf fs (c k)) i < (drS fun k => dressOf fs (c k)) k) := fun k i hk hi => by
    rw [hC k i hk hi]
    obtain ⟨g1, g2⟩ := hD k i hk hi
    refine ⟨fun g => ?_, fun g => ?_⟩
    · have n1 : ¬ (drS fun k => dressOf fs (c k)) k < (drS fun k => dressOf fs (c k)) i := fun e => by have := g1.mp e; omega
      have n2 : ¬ (drS fun k => dressOf fs (c k)) k = (drS fun k => dressOf fs (c k)) i := fun e => by have := g2.mp e; omega
      by_cases e : (drS fun k => dressOf fs (c k)) i < (drS fun k => dressOf fs (c k)) k
      · exact e
      · exact absurd (List.le_antisymm (List.not_lt.mp e) (List.not_lt.mp n1)) n2
    · have n1 : ¬ scmp fs.cps.toList (bN (c k)) (bN (c i)) < 0 := fun e => List.lt_irrefl _ (List.lt_trans g (g1.mpr e))
      have n2 : ¬ scmp fs.cps.toList (bN (c k)) (bN (c i)) = 0 := fun e => by rw [g2.mpr e] at g; exact List.lt_irrefl _ g
      omega
  constructor
  · intro k hk
    obtain ⟨l1, l6⟩ := RG_in h1 h2 h7 k
    have a := nA_in (fl := fs.cps.toList) l1 (RG r1 r2 k).2
    have w := fW_in fs.cps.toList (rd (RG r1 r2 k).1 (RG r1 r2 k).2)
    have p : (3 : Int) ^ (RG r1 r2 k).1.length ≤ 729 := by
      have hc : (RG r1 r2 k).1.length = 1 ∨ (RG r1 r2 k).1.length = 2 ∨ (RG r1 r2 k).1.length = 3 ∨ (RG r1 r2 k).1.length = 4 ∨ (RG r1 r2 k).1.length = 5 ∨ (RG r1 r2 k).1.length = 6 := by omega
      rcases hc with e | e | e | e | e | e <;> rw [e] <;> decide
    have q : nB fs.cps.toList (RG r1 r2 k).1 (RG r1 r2 k).2 ≤ 800 := by unfold nB; omega
    rw [hA k hk, hB k hk]
    omega
  · intro i hi
    have eln : lnF A B i = ((List.range 7).filter fun k => decide ((drS fun k => dressOf fs (c k)) k < (drS fun k => dressOf fs (c k)) i)).length := by
      unfold lnF
      rw [List.filter_congr fun k hk => decide_eq_decide.mpr (hlt k i (List.mem_range.mp hk) hi)]
    have elk : lkF A B i = (List.range 7).filter fun k => decide ((drS fun k => dressOf fs (c k)) k = (drS fun k => dressOf fs (c k)) i) := by
      unfold lkF
      exact List.filter_congr fun k hk => decide_eq_decide.mpr (heq k i (List.mem_range.mp hk) hi)
    unfold PlaceOk
    rw [eln, elk]
    obtain ⟨p1, p2⟩ := hT.place hi
    have h9 : ∀ {a : Nat}, a < 7 → ks.getD a 0 < 7 := fun ha => hT.lt7 ha
    refine ⟨p1, p2, fun k hk => ?_, fun a d had hd g => ?_, fun a d had hd g => ?_, fun s1 s2 hbd => hT.bounds hi (fun a ha => hn _ i (h9 ha) hi) (fun a ha => hp _ i (h9 ha) hi) hbd⟩
    · refine ⟨fun e => (heq k i hk hi).mpr (congrArg (fun s : Str => s.cps.toList) e), fun e => ?_⟩
      have e2 := (heq k i hk hi).mp e
      exact congrArg (fun l : List Nat => (⟨l.toArray⟩ : Str)) e2
    · rw [hn _ i (h9 hd) hi] at g
      rw [hn _ i (h9 (by omega)) hi]
      exact hT.mono had (by have := hT.len; omega) g
    · rw [hp _ i (h9 hd) hi] at g
      rw [hp _ i (h9 (by omega)) hi]
      exact not_lt_mono hT had hd g
theorem seven_get {α : Type} {d x0 x1 x2 x3 x4 x5 x6 : α} {k : Nat} (h : k < 7) : [x0, x1, x2, x3, x4, x5, x6][k]? = some ([x0, x1, x2, x3, x4, x5, x6].getD k d) := by
  rw [List.getElem?_eq_getElem (by simpa using h), List.getD_eq_getElem?_getD, List.getElem?_eq_getElem (by simpa using h)]; rfl
theorem seven_map {α β : Type} {f : α → β} {d : α} {x0 x1 x2 x3 x4 x5 x6 : α} {k : Nat} (h : k < 7) : [f x0, f x1, f x2, f x3, f x4, f x5, f x6][k]? = some (f ([x0, x1, x2, x3, x4, x5, x6].getD k d)) := by
  have e : [f x0, f x1, f x2, f x3, f x4, f x5, f x6] = [x0, x1, x2, x3, x4, x5, x6].map f := rfl
  rw [e, List.getElem?_map, seven_get (d := d) h]; rfl
theorem seven_map2 {α γ β : Type} {f : α → γ → β} {d : α} {g : γ} {x0 x1 x2 x3 x4 x5 x6 : α} {y0 y1 y2 y3 y4 y5 y6 : γ} {k : Nat} (h : k < 7) :
    [f x0 y0, f x1 y1, f x2 y2, f x3 y3, f x4 y4, f x5 y5, f x6 y6][k]? = some (f ([x0, x1, x2, x3, x4, x5, x6].getD k d) ([y0, y1, y2, y3, y4, y5, y6].getD k g)) := by
  have : k = 0 ∨ k = 1 ∨ k = 2 ∨ k = 3 ∨ k = 4 ∨ k = 5 ∨ k = 6 := by omega
  rcases this with rfl | rfl | rfl | rfl | rfl | rfl | rfl <;> rfl
theorem far5 {a z : Nat} (h : a + 7 < z) : @Ne Nat z (a + 5) := by show z ≠ _; omega
theorem far6 {a z : Nat} (h : a + 7 < z) : @Ne Nat z (a + 6) := by show z ≠ _; omega
theorem far7 {a z : Nat} (h : a + 7 < z) : @Ne Nat z (a + 7) := by show z ≠ _; omega
theorem far125 {a z : Nat} (h2 : 125 < a) (h : a + 7 < z) : @Ne Nat z 125 := by show z ≠ _; omega
theorem law_all {w : World} {mean : ExcName → Option Value} {mg mb : Str → Option Value} {sc : Scope} (hsc : lawScope[0]? = some sc) {L fa sl : Addr} {h₀ base : Heap} {s : Shared} {Q : Flow → Shared → Prop} {E : Value → Shared → Prop} {ws : List Value} {ns : List Int} {o1 o2 o3 o4 o5 o6 o7 : Obj}
    (K : Below callerA base [] h₀) (hC1 : CodeHd base 129 125) (hC2 : CodeHd base 141 139) (F : Fr h₀ L s.heap (fun z => if z = Str.ofString "script" then some (.ref sl) else none)) (X : (hd.heap_1 w.params).In h₀)
    (N : News h₀ L s.heap [(L + 7, o7), (L + 6, o6), (L + 5, o5), (L + 4, o4), (L + 3, o3), (L + 2, o2), (L + 1, o1), (125, tabObj #[]), (139, tabObj #[])]) (T : Top topProg LZ mean mg mb h₀)
    (d7 : o7.data = .cell none) (d6 : o6.data = .cell none) (d5 : o5.data = .cell none) (d4 : o4.data = .cell none) (d3 : o3.data = .cell none) (d2 : o2.data = .cell none) (d1 : o1.data = .cell none) (h125 : @LT.lt Nat _ 125 L) (h139 : @LT.lt Nat _ 139 L)
    (hE : PassesOwn (model PG w) (callerA.deeper (envOfC "law" sc L fa (.ref 141))) (envOfC "law" sc L fa (.ref 141)) E)
    (hl : h₀.IsList sl ws.toArray) (hI : IntsAre ws ns) (hn : ns.length ≤ 63)
    (hret : ∀ ps1 ps2 m' h' tk', Fr h₀ L h' m' → News h₀ L h' [(125, tabObj ps1), (139, tabObj ps2)] → Q (.ret (.bool true)) { s with heap := h', toks := tk' }) :
    wpN (model PG w) (callerA.deeper (envOfC "law" sc L fa (.ref 141))) (execs lawBody (envOfC "law" sc L fa (.ref 141))) Q E s := by
  obtain ⟨s0, s1, s2, s3, s4, s5, s6, s7, s8, s9, s10, s11, s12, s13, e⟩ : ∃ s0 s1 s2 s3 s4 s5 s6 s7 s8 s9 s10 s11 s12 s13, lawBody = [s0, s1, s2, s3, s4, s5, s6, s7, s8, s9, s10, s11, s12, s13] := ⟨_, _, _, _, _, _, _, _, _, _, _, _, _, _, by with_unfolding_all rfl⟩
  rw [e]
  refine wpN_execs_app (pre := [s0, s1, s2, s3, s4, s5]) (post := [s6, s7, s8, s9, s10, s11, s12, s13]) ?_
  refine wpAny_execs_cons ?_
  refine law_cells0 (by rw [e]; rfl) hsc _ K F X N T (if_pos rfl) hl hI hn ?_
  intro lc k0 k1 k2 k3 k4 k5 k6 j0 j1 j2 j3 j4 j5 j6 cnt h1 tk1 hB F1 N1 lt1
  dsimp only
  clear F N
  have la1 : @LT.lt Nat _ (L + 1) lc := lt1 _ (mem_pick 6 List.mem_cons_self)
  clear lt1
  refine wpAny_execs_cons ?_
  refine law_total (j0 := j0) (j1 := j1) (j2 := j2) (j3 := j3) (j4 := j4) (j5 := j5) (j6 := j6) (cnt := cnt) (by rw [e]; rfl) hsc [(L + 2, o2), (L + 3, o3), (L + 4, o4), (L + 5, o5), (L + 6, o6), (L + 7, o7), (125, tabObj #[]), (139, tabObj #[])] F1 X (news_pick [0, 7, 6, 5, 4, 3, 2, 1, 8, 9] N1) T (if_pos rfl) d1 (Ne.symm (Nat.ne_of_lt la1)) ?_ (hB k0 List.mem_cons_self) (hB k1 (List.mem_cons_of_mem _ List.mem_cons_self)) (hB k2 (List.mem_cons_of_mem _ (List.mem_cons_of_mem _ List.mem_cons_self))) (hB k3 (List.mem_cons_of_mem _ (List.mem_cons_of_mem _ (List.mem_cons_of_mem _ List.mem_cons_self)))) (hB k4 (List.mem_cons_of_mem _ (List.mem_cons_of_mem _ (List.mem_cons_of_mem _ (List.mem_cons_of_mem _ List.mem_cons_self))))) (hB k5 (List.mem_cons_of_mem _ (List.mem_cons_of_mem _ (List.mem_cons_of_mem _ (List.mem_cons_of_mem _ (List.mem_cons_of_mem _ List.mem_cons_self)))))) (hB k6 (List.mem_cons_of_mem _ (List.mem_cons_of_mem _ (List.mem_cons_of_mem _ (List.mem_cons_of_mem _ (List.mem_cons_of_mem _ (List.mem_cons_of_mem _ List.mem_cons_self))))))) ?_
  · (repeat' (first | exact List.forall_mem_nil _ | (refine fc ?_ ?_))) <;> ((show @Ne Nat _ _; first | with_reducible assumption | exact Ne.symm (by with_reducible assumption) | exact Nat.ne_of_gt (by with_reducible assumption) | exact fun h => absurd (Nat.add_left_cancel h) (by decide) | exact far5 (by with_reducible assumption) | exact far6 (by with_reducible assumption) | exact far7 (by with_reducible assumption) | exact far125 (by with_reducible assumption) (by with_reducible assumption) | exact Nat.ne_of_lt (Nat.lt_add_right _ (by with_reducible assumption)) | exact Nat.ne_of_gt (Nat.lt_add_right _ (by with_reducible assumption)) | decide | exact Nat.ne_of_gt (Nat.lt_of_le_of_lt (Nat.add_le_add_left (by decide) _) (by with_reducible assumption)) | exact Nat.ne_of_lt (Nat.lt_trans (Nat.lt_add_right _ (by with_reducible assumption)) (by with_reducible assumption)) | exact Nat.ne_of_gt (Nat.lt_trans (Nat.lt_add_right _ (by with_reducible assumption)) (by with_reducible assumption)) | omega))
  intro sm tS o1' h2 tk2 hS dT F2 N2
  dsimp only
  clear F1 N1
  refine wpAny_execs_cons ?_
  refine law_marks (by rw [e]; rfl) hsc _ F2 X N2 T (if_pos rfl) ?_
  intro tm h3 tk3 F3 N3
  dsimp only
  clear F2 N2
  refine wpAny_execs_cons ?_
  refine law_folds (by rw [e]; rfl) hsc [(L + 3, o3), (L + 4, o4), (L + 5, o5), (L + 6, o6), (L + 7, o7), (125, tabObj #[]), (139, tabObj #[])] F3 X (news_pick [1, 0, 2, 3, 4, 5, 6, 7, 8] N3) T dT ⟨_, d2⟩ hS ?_ ?_
  · (repeat' (first | exact List.forall_mem_nil _ | (refine fc ?_ ?_))) <;> ((show @Ne Nat _ _; first | with_reducible assumption | exact Ne.symm (by with_reducible assumption) | exact Nat.ne_of_gt (by with_reducible assumption) | exact fun h => absurd (Nat.add_left_cancel h) (by decide) | exact far5 (by with_reducible assumption) | exact far6 (by with_reducible assumption) | exact far7 (by with_reducible assumption) | exact far125 (by with_reducible assumption) (by with_reducible assumption) | exact Nat.ne_of_lt (Nat.lt_add_right _ (by with_reducible assumption)) | exact Nat.ne_of_gt (Nat.lt_add_right _ (by with_reducible assumption)) | decide | exact Nat.ne_of_gt (Nat.lt_of_le_of_lt (Nat.add_le_add_left (by decide) _) (by with_reducible assumption)) | exact Nat.ne_of_lt (Nat.lt_trans (Nat.lt_add_right _ (by with_reducible assumption)) (by with_reducible assumption)) | exact Nat.ne_of_gt (Nat.lt_trans (Nat.lt_add_right _ (by with_reducible assumption)) (by with_reducible assumption)) | omega))
  intro fs tF o2' h4 tk4 dF F4 N4
  dsimp only
  clear F3 N3
  refine wpAny_execs_cons ?_
  refine law_cut (by rw [e]; rfl) hsc [(L + 2, o2'), (L + 3, o3), (L + 4, o4), (L + 5, o5), (L + 6, o6), (L + 7, o7), (125, tabObj #[]), (139, tabObj #[])] F4 X (news_pick [1, 0, 2, 3, 4, 5, 6, 7, 8] N4) T dT hS ?_
  intro cut tc h5 tk5 hcut F5 N5
  dsimp only
  clear F4 N4
  refine wpAny_execs_cons ?_
  refine law_rings (by rw [e]; rfl) hsc [(L + 2, o2'), (L + 3, o3), (L + 4, o4), (L + 5, o5), (L + 6, o6), (L + 7, o7), (125, tabObj #[]), (139, tabObj #[])] F5 X (news_pick [1, 2, 3, 4, 5, 6, 7, 8] N5) T (by (repeat (first | exact if_pos rfl | refine (if_neg (by decide)).trans ?_))) (by (repeat (first | exact if_pos rfl | refine (if_neg (by decide)).trans ?_))) hcut ?_ ?_
  · exact fc (mkOf_isM _) (fc (mkOf_isM _) (fc (mkOf_isM _) (fc (mkOf_isM _) (fc (mkOf_isM _) (fc (mkOf_isM _) (fc (mkOf_isM _) (List.forall_mem_nil _)))))))
  intro R r1 r2 t1 t2 h6 tk6 hr F6 N6 lt6
  dsimp only
  clear F5 N5
  have lb7 : @LT.lt Nat _ (L + 7) R := lt6 _ (mem_pick 5 List.mem_cons_self)
  clear lt6
  refine wpAny_execs_nil ⟨rfl, ?_⟩
  refine wpN_execs_cons ?_
  refine law_rows (by rw [e]; rfl) hsc _ K F6 X N6 T (if_pos rfl) hr ?_
  intro b W c0 c1 c2 c3 c4 c5 c6 x0 x1 x2 x3 x4 x5 x6 h7 tk7 hb hRA F7 N7 ne7
  clear F6 N6
  have neR : @Ne Nat (R) W := ne7 _ (mem_pick 0 List.mem_cons_self)
  have ne2 : @Ne Nat (L + 2) W := ne7 _ (mem_pick 1 List.mem_cons_self)
  have ne3 : @Ne Nat (L + 3) W := ne7 _ (mem_pick 2 List.mem_cons_self)
  have ne4 : @Ne Nat (L + 4) W := ne7 _ (mem_pick 3 List.mem_cons_self)
  have ne5 : @Ne Nat (L + 5) W := ne7 _ (mem_pick 4 List.mem_cons_self)
  have ne6 : @Ne Nat (L + 6) W := ne7 _ (mem_pick 5 List.mem_cons_self)
  have nf7 : @Ne Nat (L + 7) W := ne7 _ (mem_pick 6 List.mem_cons_self)
  have ne125 : @Ne Nat (125) W := ne7 _ (mem_pick 7 List.mem_cons_self)
  have ne139 : @Ne Nat (139) W := ne7 _ (mem_pick 8 List.mem_cons_self)
  clear ne7
  refine ⟨rfl, wpN_of ?_⟩
  refine wpAny_execs_cons ?_
  refine law_dresses (t0 := x0) (t1 := x1) (t2 := x2) (t3 := x3) (t4 := x4) (t5 := x5) (t6 := x6) (c0 := c0) (c1 := c1) (c2 := c2) (c3 := c3) (c4 := c4) (c5 := c5) (c6 := c6) (by rw [e]; rfl) hsc [(R, listOf #[.str r1 t1, .str r2 t2] 0), (L + 4, o4), (L + 5, o5), (L + 6, o6), (L + 7, o7), (125, tabObj #[]), (139, tabObj #[])] K F7 X (news_pick [0, 3, 2, 1, 4, 5, 6, 7, 8, 9] N7) T (if_pos rfl) dF d3 (Ne.symm ne3) ?_
    (Nat.le_of_eq (hRA 0 c0 rfl).1) (Nat.le_of_eq (hRA 1 c1 rfl).1) (Nat.le_of_eq (hRA 2 c2 rfl).1) (Nat.le_of_eq (hRA 3 c3 rfl).1) (Nat.le_of_eq (hRA 4 c4 rfl).1) (Nat.le_of_eq (hRA 5 c5 rfl).1) (Nat.le_of_eq (hRA 6 c6 rfl).1) ?_
  · (repeat' (first | exact List.forall_mem_nil _ | (refine fc ?_ ?_))) <;> ((show @Ne Nat _ _; first | with_reducible assumption | exact Ne.symm (by with_reducible assumption) | exact Nat.ne_of_gt (by with_reducible assumption) | exact fun h => absurd (Nat.add_left_cancel h) (by decide) | exact far5 (by with_reducible assumption) | exact far6 (by with_reducible assumption) | exact far7 (by with_reducible assumption) | exact far125 (by with_reducible assumption) (by with_reducible assumption) | exact Nat.ne_of_lt (Nat.lt_add_right _ (by with_reducible assumption)) | exact Nat.ne_of_gt (Nat.lt_add_right _ (by with_reducible assumption)) | decide | exact Nat.ne_of_gt (Nat.lt_of_le_of_lt (Nat.add_le_add_left (by decide) _) (by with_reducible assumption)) | exact Nat.ne_of_lt (Nat.lt_trans (Nat.lt_add_right _ (by with_reducible assumption)) (by with_reducible assumption)) | exact Nat.ne_of_gt (Nat.lt_trans (Nat.lt_add_right _ (by with_reducible assumption)) (by with_reducible assumption)) | omega))
  intro D u0 u1 u2 u3 u4 u5 u6 o3' h8 tk8 dD F8 N8 o8
  dsimp only
  clear F7 N7
  have f8 := off1_mem o8
  have fW : @Ne Nat (W) D := f8 _ (mem_pick 0 List.mem_cons_self)
  have f3 : @Ne Nat (L + 3) D := f8 _ (mem_pick 1 List.mem_cons_self)
  have f2 : @Ne Nat (L + 2) D := f8 _ (mem_pick 2 List.mem_cons_self)
  have fR : @Ne Nat (R) D := f8 _ (mem_pick 3 List.mem_cons_self)
  have f4 : @Ne Nat (L + 4) D := f8 _ (mem_pick 4 List.mem_cons_self)
  have f5 : @Ne Nat (L + 5) D := f8 _ (mem_pick 5 List.mem_cons_self)
  have f6 : @Ne Nat (L + 6) D := f8 _ (mem_pick 6 List.mem_cons_self)
  have f7 : @Ne Nat (L + 7) D := f8 _ (mem_pick 7 List.mem_cons_self)
  have f125 : @Ne Nat (125) D := f8 _ (mem_pick 8 List.mem_cons_self)
  have f139 : @Ne Nat (139) D := f8 _ (mem_pick 9 List.mem_cons_self)
  clear f8
  clear o8
  refine wpAny_execs_cons ?_
  refine law_table (by rw [e]; rfl) hsc _ F8 X N8 T ?_
  intro tb h9 tk9 F9 N9 lt9
  dsimp only
  clear F8 N8
  have lcD : @LT.lt Nat _ (D) tb := lt9 _ (mem_pick 0 List.mem_cons_self)
  have lcW : @LT.lt Nat _ (W) tb := lt9 _ (mem_pick 1 List.mem_cons_self)
  have lc3 : @LT.lt Nat _ (L + 3) tb := lt9 _ (mem_pick 2 List.mem_cons_self)
  have lc2 : @LT.lt Nat _ (L + 2) tb := lt9 _ (mem_pick 3 List.mem_cons_self)
  have lcR : @LT.lt Nat _ (R) tb := lt9 _ (mem_pick 4 List.mem_cons_self)
  have lc4 : @LT.lt Nat _ (L + 4) tb := lt9 _ (mem_pick 5 List.mem_cons_self)
  have lc5 : @LT.lt Nat _ (L + 5) tb := lt9 _ (mem_pick 6 List.mem_cons_self)
  have lc6 : @LT.lt Nat _ (L + 6) tb := lt9 _ (mem_pick 7 List.mem_cons_self)
  have lc7 : @LT.lt Nat _ (L + 7) tb := lt9 _ (mem_pick 8 List.mem_cons_self)
  have lc125 : @LT.lt Nat _ (125) tb := lt9 _ (mem_pick 9 List.mem_cons_self)
  have lc139 : @LT.lt Nat _ (139) tb := lt9 _ (mem_pick 10 List.mem_cons_self)
  clear lt9
  refine wpAny_execs_cons ?_
  refine law_insert (ds := [.str (dressOf fs c0) u0, .str (dressOf fs c1) u1, .str (dressOf fs c2) u2, .str (dressOf fs c3) u3, .str (dressOf fs c4) u4, .str (dressOf fs c5) u5, .str (dressOf fs c6) u6]) (dr := fun k => dressOf fs ([c0, c1, c2, c3, c4, c5, c6].getD k c0)) (td := fun k => [u0, u1, u2, u3, u4, u5, u6].getD k u0) (tb := tb) (oD := o3') (D := D)
    (by rw [e]; rfl) hsc [(W, LCg.lst [.bytes c0 x0, .bytes c1 x1, .bytes c2 x2, .bytes c3 x3, .bytes c4 x4, .bytes c5 x5, .bytes c6 x6]), (L + 2, o2'), (R, listOf #[.str r1 t1, .str r2 t2] 0), (L + 4, o4), (L + 5, o5), (L + 6, o6), (L + 7, o7), (125, tabObj #[])] ?_ ?_ K hC2 F9 X (news_pick [0, 11, 3, 1, 2, 4, 5, 6, 7, 8, 9, 10] N9) T hE (if_pos rfl) dD
    (fun k hk => seven_map2 (f := fun a u => Value.str (dressOf fs a) u) hk) ?_
  · (repeat' (first | exact List.forall_mem_nil _ | (refine fc ?_ ?_))) <;> ((show @Ne Nat _ _; first | with_reducible assumption | exact Ne.symm (by with_reducible assumption) | exact Nat.ne_of_gt (by with_reducible assumption) | exact fun h => absurd (Nat.add_left_cancel h) (by decide) | exact far5 (by with_reducible assumption) | exact far6 (by with_reducible assumption) | exact far7 (by with_reducible assumption) | exact far125 (by with_reducible assumption) (by with_reducible assumption) | exact Nat.ne_of_lt (Nat.lt_add_right _ (by with_reducible assumption)) | exact Nat.ne_of_gt (Nat.lt_add_right _ (by with_reducible assumption)) | decide | exact Nat.ne_of_gt (Nat.lt_of_le_of_lt (Nat.add_le_add_left (by decide) _) (by with_reducible assumption)) | exact Nat.ne_of_lt (Nat.lt_trans (Nat.lt_add_right _ (by with_reducible assumption)) (by with_reducible assumption)) | exact Nat.ne_of_gt (Nat.lt_trans (Nat.lt_add_right _ (by with_reducible assumption)) (by with_reducible assumption)) | omega))
  · (repeat' (first | exact List.forall_mem_nil _ | (refine fc ?_ ?_))) <;> ((show @Ne Nat _ _; first | with_reducible assumption | exact Ne.symm (by with_reducible assumption) | exact Nat.ne_of_gt (by with_reducible assumption) | exact fun h => absurd (Nat.add_left_cancel h) (by decide) | exact far5 (by with_reducible assumption) | exact far6 (by with_reducible assumption) | exact far7 (by with_reducible assumption) | exact far125 (by with_reducible assumption) (by with_reducible assumption) | exact Nat.ne_of_lt (Nat.lt_add_right _ (by with_reducible assumption)) | exact Nat.ne_of_gt (Nat.lt_add_right _ (by with_reducible assumption)) | decide | exact Nat.ne_of_gt (Nat.lt_of_le_of_lt (Nat.add_le_add_left (by decide) _) (by with_reducible assumption)) | exact Nat.ne_of_lt (Nat.lt_trans (Nat.lt_add_right _ (by with_reducible assumption)) (by with_reducible assumption)) | exact Nat.ne_of_gt (Nat.lt_trans (Nat.lt_add_right _ (by with_reducible assumption)) (by with_reducible assumption)) | omega))
  intro q0 q1 q2 q3 q4 q5 q6 b0 b1 b2 b3 b4 b5 b6 y0 y1 y2 y3 y4 y5 y6 v0 v1 v2 v3 v4 v5 v6 kv cL h10 tk10 hT F10 N10
  dsimp only
  clear F9 N9 lcD lcW lc3 lc2 lcR lc4 lc5 lc6 lc7 lc125 lc139
  refine wpAny_execs_cons ?_
  refine law_order (by rw [e]; rfl) hsc _ F10 X N10 T (by (repeat (first | exact if_pos rfl | refine (if_neg (by decide)).trans ?_))) ?_
  intro O h11 tk11 F11 N11 o11
  dsimp only
  clear F10 N10
  have f11 := off1_mem o11
  have g139 : @Ne Nat (139) O := f11 _ (mem_pick 0 List.mem_cons_self)
  have g3 : @Ne Nat (L + 3) O := f11 _ (mem_pick 1 List.mem_cons_self)
  have gD : @Ne Nat (D) O := f11 _ (mem_pick 2 List.mem_cons_self)
  have gW : @Ne Nat (W) O := f11 _ (mem_pick 3 List.mem_cons_self)
  have g2 : @Ne Nat (L + 2) O := f11 _ (mem_pick 4 List.mem_cons_self)
  have gR : @Ne Nat (R) O := f11 _ (mem_pick 5 List.mem_cons_self)
  have g4 : @Ne Nat (L + 4) O := f11 _ (mem_pick 6 List.mem_cons_self)
  have g5 : @Ne Nat (L + 5) O := f11 _ (mem_pick 7 List.mem_cons_self)
  have g6 : @Ne Nat (L + 6) O := f11 _ (mem_pick 8 List.mem_cons_self)
  have g7 : @Ne Nat (L + 7) O := f11 _ (mem_pick 9 List.mem_cons_self)
  have g125 : @Ne Nat (125) O := f11 _ (mem_pick 10 List.mem_cons_self)
  clear f11
  clear o11
  refine wpAny_execs_cons ?_
  refine law_fractions (R := R) (fs := fs) (tF := tF) (oX := o4) (oF := o2') (r1 := r1) (r2 := r2) (t1 := t1) (t2 := t2) (by rw [e]; rfl) hsc [(O, LCg.lst [.int q0 v0, .int q1 v1, .int q2 v2, .int q3 v3, .int q4 v4, .int q5 v5, .int q6 v6]), (139, tabL cL), (L + 3, o3'), (D, LCg.lst [.str (dressOf fs c0) u0, .str (dressOf fs c1) u1, .str (dressOf fs c2) u2, .str (dressOf fs c3) u3, .str (dressOf fs c4) u4, .str (dressOf fs c5) u5, .str (dressOf fs c6) u6]),
    (W, LCg.lst [.bytes c0 x0, .bytes c1 x1, .bytes c2 x2, .bytes c3 x3, .bytes c4 x4, .bytes c5 x5, .bytes c6 x6]), (L + 5, o5), (L + 6, o6), (L + 7, o7), (125, tabObj #[])] K F11 X (news_pick [6, 7, 5, 0, 1, 2, 3, 4, 8, 9, 10, 11] N11) T (by (repeat (first | exact if_pos rfl | refine (if_neg (by decide)).trans ?_))) dF d4 ?_ hr.1 hr.2.1 hr.2.2.1 hr.2.2.2.1 hr.2.2.2.2 ?_
  · (repeat' (first | exact List.forall_mem_nil _ | (refine fc ?_ ?_))) <;> ((show @Ne Nat _ _; first | with_reducible assumption | exact Ne.symm (by with_reducible assumption) | exact Nat.ne_of_gt (by with_reducible assumption) | exact fun h => absurd (Nat.add_left_cancel h) (by decide) | exact far5 (by with_reducible assumption) | exact far6 (by with_reducible assumption) | exact far7 (by with_reducible assumption) | exact far125 (by with_reducible assumption) (by with_reducible assumption) | exact Nat.ne_of_lt (Nat.lt_add_right _ (by with_reducible assumption)) | exact Nat.ne_of_gt (Nat.lt_add_right _ (by with_reducible assumption)) | decide | exact Nat.ne_of_gt (Nat.lt_of_le_of_lt (Nat.add_le_add_left (by decide) _) (by with_reducible assumption)) | exact Nat.ne_of_lt (Nat.lt_trans (Nat.lt_add_right _ (by with_reducible assumption)) (by with_reducible assumption)) | exact Nat.ne_of_gt (Nat.lt_trans (Nat.lt_add_right _ (by with_reducible assumption)) (by with_reducible assumption)) | omega))
  intro V z0 z1 z2 z3 z4 z5 z6 a0 a1 a2 a3 a4 a5 a6 p0 p1 p2 p3 p4 p5 p6 m0 m1 m2 m3 m4 m5 m6 n0 n1 n2 n3 n4 n5 n6 o4' h12 tk12 hfrac dX F12 N12 f12
  dsimp only
  clear F11 N11
  have vR : @Ne Nat (R) V := (f12 _ (mem_pick 0 List.mem_cons_self)).1
  have v4' : @Ne Nat (L + 4) V := (f12 _ (mem_pick 1 List.mem_cons_self)).1
  have v2' : @Ne Nat (L + 2) V := (f12 _ (mem_pick 2 List.mem_cons_self)).1
  have vO : @Ne Nat (O) V := (f12 _ (mem_pick 3 List.mem_cons_self)).1
  have v139 : @Ne Nat (139) V := (f12 _ (mem_pick 4 List.mem_cons_self)).1
  have v3' : @Ne Nat (L + 3) V := (f12 _ (mem_pick 5 List.mem_cons_self)).1
  have vD : @Ne Nat (D) V := (f12 _ (mem_pick 6 List.mem_cons_self)).1
  have vW : @Ne Nat (W) V := (f12 _ (mem_pick 7 List.mem_cons_self)).1
  have v5' : @Ne Nat (L + 5) V := (f12 _ (mem_pick 8 List.mem_cons_self)).1
  have v6' : @Ne Nat (L + 6) V := (f12 _ (mem_pick 9 List.mem_cons_self)).1
  have v7' : @Ne Nat (L + 7) V := (f12 _ (mem_pick 10 List.mem_cons_self)).1
  have v125 : @Ne Nat (125) V := (f12 _ (mem_pick 11 List.mem_cons_self)).1
  have rz0 : @LT.lt Nat _ (R) z0 := (f12 _ (mem_pick 0 List.mem_cons_self)).2.1
  have rz1 : @LT.lt Nat _ (R) z1 := (f12 _ (mem_pick 0 List.mem_cons_self)).2.2.1
  have rz2 : @LT.lt Nat _ (R) z2 := (f12 _ (mem_pick 0 List.mem_cons_self)).2.2.2.1
  have rz3 : @LT.lt Nat _ (R) z3 := (f12 _ (mem_pick 0 List.mem_cons_self)).2.2.2.2.1
  have rz4 : @LT.lt Nat _ (R) z4 := (f12 _ (mem_pick 0 List.mem_cons_self)).2.2.2.2.2.1
  have rz5 : @LT.lt Nat _ (R) z5 := (f12 _ (mem_pick 0 List.mem_cons_self)).2.2.2.2.2.2.1
  have rz6 : @LT.lt Nat _ (R) z6 := (f12 _ (mem_pick 0 List.mem_cons_self)).2.2.2.2.2.2.2
  have oz0 : @LT.lt Nat _ (O) z0 := (f12 _ (mem_pick 3 List.mem_cons_self)).2.1
  have oz1 : @LT.lt Nat _ (O) z1 := (f12 _ (mem_pick 3 List.mem_cons_self)).2.2.1
  have oz2 : @LT.lt Nat _ (O) z2 := (f12 _ (mem_pick 3 List.mem_cons_self)).2.2.2.1
  have oz3 : @LT.lt Nat _ (O) z3 := (f12 _ (mem_pick 3 List.mem_cons_self)).2.2.2.2.1
  have oz4 : @LT.lt Nat _ (O) z4 := (f12 _ (mem_pick 3 List.mem_cons_self)).2.2.2.2.2.1
  have oz5 : @LT.lt Nat _ (O) z5 := (f12 _ (mem_pick 3 List.mem_cons_self)).2.2.2.2.2.2.1
  have oz6 : @LT.lt Nat _ (O) z6 := (f12 _ (mem_pick 3 List.mem_cons_self)).2.2.2.2.2.2.2
  have wz0 : @LT.lt Nat _ (W) z0 := (f12 _ (mem_pick 7 List.mem_cons_self)).2.1
  have wz1 : @LT.lt Nat _ (W) z1 := (f12 _ (mem_pick 7 List.mem_cons_self)).2.2.1
  have wz2 : @LT.lt Nat _ (W) z2 := (f12 _ (mem_pick 7 List.mem_cons_self)).2.2.2.1
  have wz3 : @LT.lt Nat _ (W) z3 := (f12 _ (mem_pick 7 List.mem_cons_self)).2.2.2.2.1
  have wz4 : @LT.lt Nat _ (W) z4 := (f12 _ (mem_pick 7 List.mem_cons_self)).2.2.2.2.2.1
  have wz5 : @LT.lt Nat _ (W) z5 := (f12 _ (mem_pick 7 List.mem_cons_self)).2.2.2.2.2.2.1
  have wz6 : @LT.lt Nat _ (W) z6 := (f12 _ (mem_pick 7 List.mem_cons_self)).2.2.2.2.2.2.2
  have sz0 : @LT.lt Nat _ (L + 7) z0 := (f12 _ (mem_pick 10 List.mem_cons_self)).2.1
  have sz1 : @LT.lt Nat _ (L + 7) z1 := (f12 _ (mem_pick 10 List.mem_cons_self)).2.2.1
  have sz2 : @LT.lt Nat _ (L + 7) z2 := (f12 _ (mem_pick 10 List.mem_cons_self)).2.2.2.1
  have sz3 : @LT.lt Nat _ (L + 7) z3 := (f12 _ (mem_pick 10 List.mem_cons_self)).2.2.2.2.1
  have sz4 : @LT.lt Nat _ (L + 7) z4 := (f12 _ (mem_pick 10 List.mem_cons_self)).2.2.2.2.2.1
  have sz5 : @LT.lt Nat _ (L + 7) z5 := (f12 _ (mem_pick 10 List.mem_cons_self)).2.2.2.2.2.2.1
  have sz6 : @LT.lt Nat _ (L + 7) z6 := (f12 _ (mem_pick 10 List.mem_cons_self)).2.2.2.2.2.2.2
  clear f12
  have hcf : ∀ k, k < 7 → RowAt b k ([c0, c1, c2, c3, c4, c5, c6].getD k c0) := fun k hk => hRA k _ (seven_get hk)
  obtain ⟨hbd, hM⟩ := plain_ok (fs := fs) (A := fun k => [a0, a1, a2, a3, a4, a5, a6].getD k 0) (B := fun k => [p0, p1, p2, p3, p4, p5, p6].getD k 0) (c := fun k => [c0, c1, c2, c3, c4, c5, c6].getD k c0) (ks := [q0, q1, q2, q3, q4, q5, q6]) hr.2.1 hr.2.2.1 hr.1 hr.2.2.2.1 hr.2.2.2.2 hb hcf
    (by rw [← hfrac]; refine seven_all ?_ ?_ ?_ ?_ ?_ ?_ ?_ <;> rfl) hT
  refine wpAny_execs_cons ?_
  refine law_place (fs := fs) (tF := tF) (A := fun k => [a0, a1, a2, a3, a4, a5, a6].getD k 0) (B := fun k => [p0, p1, p2, p3, p4, p5, p6].getD k 0) (rb := fun k => [c0, c1, c2, c3, c4, c5, c6].getD k c0) (oi := fun j => [q0, q1, q2, q3, q4, q5, q6].getD j 0) (dr := fun k => dressOf fs ([c0, c1, c2, c3, c4, c5, c6].getD k c0))
    (ua := fun k => [m0, m1, m2, m3, m4, m5, m6].getD k m0) (ub := fun k => [n0, n1, n2, n3, n4, n5, n6].getD k n0) (dv := fun k => [z0, z1, z2, z3, z4, z5, z6].getD k z0) (td := fun k => [u0, u1, u2, u3, u4, u5, u6].getD k u0) (tb := fun k => [x0, x1, x2, x3, x4, x5, x6].getD k x0) (to := fun k => [v0, v1, v2, v3, v4, v5, v6].getD k v0)
    (V := V) (W := W) (O := O) (D := D) (fv := [.ref z0, .ref z1, .ref z2, .ref z3, .ref z4, .ref z5, .ref z6]) (ds := [.str (dressOf fs c0) u0, .str (dressOf fs c1) u1, .str (dressOf fs c2) u2, .str (dressOf fs c3) u3, .str (dressOf fs c4) u4, .str (dressOf fs c5) u5, .str (dressOf fs c6) u6])
    (rs := [.bytes c0 x0, .bytes c1 x1, .bytes c2 x2, .bytes c3 x3, .bytes c4 x4, .bytes c5 x5, .bytes c6 x6]) (os := [.int q0 v0, .int q1 v1, .int q2 v2, .int q3 v3, .int q4 v4, .int q5 v5, .int q6 v6]) (oX := o4') (oP := o5) (oA := o6) (oB := o7) (oD := o3') (oF := o2')
    (by rw [e]; rfl) hsc [(z6, tupI a6 m6 p6 n6), (z5, tupI a5 m5 p5 n5), (z4, tupI a4 m4 p4 n4), (z3, tupI a3 m3 p3 n3), (z2, tupI a2 m2 p2 n2), (z1, tupI a1 m1 p1 n1), (z0, tupI a0 m0 p0 n0), (R, listOf #[.str r1 t1, .str r2 t2] 0), (139, tabL cL)] K hC1 F12 X (news_pick [16, 17, 18, 15, 11, 19, 0, 9, 14, 13, 10, 1, 2, 3, 4, 5, 6, 7, 8, 12] N12) T hE
    (by (repeat (first | exact if_pos rfl | refine (if_neg (by decide)).trans ?_))) (by (repeat (first | exact if_pos rfl | refine (if_neg (by decide)).trans ?_))) dX dD dF d5 d6 d7 rfl ?_ (fun k hk => seven_map2 (f := fun a u => Value.str (dressOf fs a) u) hk) (fun k hk => ⟨seven_map2 (f := fun a u => Value.bytes a u) hk, (hcf k hk).1⟩)
    (fun k hk => ⟨seven_map2 (f := fun (a : Nat) u => Value.int a u) hk, hT.lt7 hk⟩) rfl hbd hM ?_ ?_ ?_ ?_ ?_
  · intro k hk
    refine ⟨seven_map (f := fun a => Value.ref a) hk, ?_⟩
    exact seven_all (P := fun k => ([z0, z1, z2, z3, z4, z5, z6].getD k z0, tupI ([a0, a1, a2, a3, a4, a5, a6].getD k 0) ([m0, m1, m2, m3, m4, m5, m6].getD k m0) ([p0, p1, p2, p3, p4, p5, p6].getD k 0) ([n0, n1, n2, n3, n4, n5, n6].getD k n0)) ∈ [(z6, tupI a6 m6 p6 n6), (z5, tupI a5 m5 p5 n5), (z4, tupI a4 m4 p4 n4), (z3, tupI a3 m3 p3 n3), (z2, tupI a2 m2 p2 n2), (z1, tupI a1 m1 p1 n1), (z0, tupI a0 m0 p0 n0), (R, listOf #[.str r1 t1, .str r2 t2] 0), (139, tabL cL)]) (mem_pick 6 List.mem_cons_self) (mem_pick 5 List.mem_cons_self) (mem_pick 4 List.mem_cons_self) (mem_pick 3 List.mem_cons_self) (mem_pick 2 List.mem_cons_self) (mem_pick 1 List.mem_cons_self) (mem_pick 0 List.mem_cons_self) k hk
  · exact gW
  · (repeat' (first | exact List.forall_mem_nil _ | (refine fc ?_ ?_))) <;> exact ⟨by ((show @Ne Nat _ _; first | with_reducible assumption | exact Ne.symm (by with_reducible assumption) | exact Nat.ne_of_gt (by with_reducible assumption) | exact fun h => absurd (Nat.add_left_cancel h) (by decide) | exact far5 (by with_reducible assumption) | exact far6 (by with_reducible assumption) | exact far7 (by with_reducible assumption) | exact far125 (by with_reducible assumption) (by with_reducible assumption) | exact Nat.ne_of_lt (Nat.lt_add_right _ (by with_reducible assumption)) | exact Nat.ne_of_gt (Nat.lt_add_right _ (by with_reducible assumption)) | decide | exact Nat.ne_of_gt (Nat.lt_of_le_of_lt (Nat.add_le_add_left (by decide) _) (by with_reducible assumption)) | exact Nat.ne_of_lt (Nat.lt_trans (Nat.lt_add_right _ (by with_reducible assumption)) (by with_reducible assumption)) | exact Nat.ne_of_gt (Nat.lt_trans (Nat.lt_add_right _ (by with_reducible assumption)) (by with_reducible assumption)) | omega)), by ((show @Ne Nat _ _; first | with_reducible assumption | exact Ne.symm (by with_reducible assumption) | exact Nat.ne_of_gt (by with_reducible assumption) | exact fun h => absurd (Nat.add_left_cancel h) (by decide) | exact far5 (by with_reducible assumption) | exact far6 (by with_reducible assumption) | exact far7 (by with_reducible assumption) | exact far125 (by with_reducible assumption) (by with_reducible assumption) | exact Nat.ne_of_lt (Nat.lt_add_right _ (by with_reducible assumption)) | exact Nat.ne_of_gt (Nat.lt_add_right _ (by with_reducible assumption)) | decide | exact Nat.ne_of_gt (Nat.lt_of_le_of_lt (Nat.add_le_add_left (by decide) _) (by with_reducible assumption)) | exact Nat.ne_of_lt (Nat.lt_trans (Nat.lt_add_right _ (by with_reducible assumption)) (by with_reducible assumption)) | exact Nat.ne_of_gt (Nat.lt_trans (Nat.lt_add_right _ (by with_reducible assumption)) (by with_reducible assumption)) | omega))⟩
  · (repeat' (first | exact List.forall_mem_nil _ | (refine fc ?_ ?_))) <;> exact ⟨by ((show @Ne Nat _ _; first | with_reducible assumption | exact Ne.symm (by with_reducible assumption) | exact Nat.ne_of_gt (by with_reducible assumption) | exact fun h => absurd (Nat.add_left_cancel h) (by decide) | exact far5 (by with_reducible assumption) | exact far6 (by with_reducible assumption) | exact far7 (by with_reducible assumption) | exact far125 (by with_reducible assumption) (by with_reducible assumption) | exact Nat.ne_of_lt (Nat.lt_add_right _ (by with_reducible assumption)) | exact Nat.ne_of_gt (Nat.lt_add_right _ (by with_reducible assumption)) | decide | exact Nat.ne_of_gt (Nat.lt_of_le_of_lt (Nat.add_le_add_left (by decide) _) (by with_reducible assumption)) | exact Nat.ne_of_lt (Nat.lt_trans (Nat.lt_add_right _ (by with_reducible assumption)) (by with_reducible assumption)) | exact Nat.ne_of_gt (Nat.lt_trans (Nat.lt_add_right _ (by with_reducible assumption)) (by with_reducible assumption)) | omega)), by ((show @Ne Nat _ _; first | with_reducible assumption | exact Ne.symm (by with_reducible assumption) | exact Nat.ne_of_gt (by with_reducible assumption) | exact fun h => absurd (Nat.add_left_cancel h) (by decide) | exact far5 (by with_reducible assumption) | exact far6 (by with_reducible assumption) | exact far7 (by with_reducible assumption) | exact far125 (by with_reducible assumption) (by with_reducible assumption) | exact Nat.ne_of_lt (Nat.lt_add_right _ (by with_reducible assumption)) | exact Nat.ne_of_gt (Nat.lt_add_right _ (by with_reducible assumption)) | decide | exact Nat.ne_of_gt (Nat.lt_of_le_of_lt (Nat.add_le_add_left (by decide) _) (by with_reducible assumption)) | exact Nat.ne_of_lt (Nat.lt_trans (Nat.lt_add_right _ (by with_reducible assumption)) (by with_reducible assumption)) | exact Nat.ne_of_gt (Nat.lt_trans (Nat.lt_add_right _ (by with_reducible assumption)) (by with_reducible assumption)) | omega)), by ((show @Ne Nat _ _; first | with_reducible assumption | exact Ne.symm (by with_reducible assumption) | exact Nat.ne_of_gt (by with_reducible assumption) | exact fun h => absurd (Nat.add_left_cancel h) (by decide) | exact far5 (by with_reducible assumption) | exact far6 (by with_reducible assumption) | exact far7 (by with_reducible assumption) | exact far125 (by with_reducible assumption) (by with_reducible assumption) | exact Nat.ne_of_lt (Nat.lt_add_right _ (by with_reducible assumption)) | exact Nat.ne_of_gt (Nat.lt_add_right _ (by with_reducible assumption)) | decide | exact Nat.ne_of_gt (Nat.lt_of_le_of_lt (Nat.add_le_add_left (by decide) _) (by with_reducible assumption)) | exact Nat.ne_of_lt (Nat.lt_trans (Nat.lt_add_right _ (by with_reducible assumption)) (by with_reducible assumption)) | exact Nat.ne_of_gt (Nat.lt_trans (Nat.lt_add_right _ (by with_reducible assumption)) (by with_reducible assumption)) | omega))⟩
  · (repeat' (first | exact List.forall_mem_nil _ | (refine fc ?_ ?_))) <;> ((show @Ne Nat _ _; first | with_reducible assumption | exact Ne.symm (by with_reducible assumption) | exact Nat.ne_of_gt (by with_reducible assumption) | exact fun h => absurd (Nat.add_left_cancel h) (by decide) | exact far5 (by with_reducible assumption) | exact far6 (by with_reducible assumption) | exact far7 (by with_reducible assumption) | exact far125 (by with_reducible assumption) (by with_reducible assumption) | exact Nat.ne_of_lt (Nat.lt_add_right _ (by with_reducible assumption)) | exact Nat.ne_of_gt (Nat.lt_add_right _ (by with_reducible assumption)) | decide | exact Nat.ne_of_gt (Nat.lt_of_le_of_lt (Nat.add_le_add_left (by decide) _) (by with_reducible assumption)) | exact Nat.ne_of_lt (Nat.lt_trans (Nat.lt_add_right _ (by with_reducible assumption)) (by with_reducible assumption)) | exact Nat.ne_of_gt (Nat.lt_trans (Nat.lt_add_right _ (by with_reducible assumption)) (by with_reducible assumption)) | omega))
  intro m' tab' h13 tk13 hTab F13 N13
  dsimp only
  clear F12 N12
  refine wpAny_execs_cons ?_
  refine law_true (by rw [e]; rfl) ?_
  dsimp only
  rcases hTab with rfl | ⟨k1, w1, _, _, k2, w2, _, _, rfl, _⟩
  · exact hret _ _ _ _ _ F13 (news_pick [0, 9] N13)
  · exact hret _ _ _ _ _ F13 (news_pick [0, 11] N13)
theorem law_walk : PySem.Challenge.rw_zn0021_01.Holds := holds_law law_said fun _ => hd (by
  k_fill
  intro w s₀ s₁ mg mb G Y fa o pm cd doc dV kV ho hd hcd hD hmg hg args vals as hpre hlay hrd hwl hlo
  have KX := km_in_of Y
  km_tabs Y
  have X := (Ground.X G).1
  have V := (Ground.X G).2
  refine Ground.open G ?_
  intro T B D TE TW
  try (refine guard_noD D (by decide +kernel) ?_; clear D)
  km_lay T hmg ho hd cd
  clear hmg
  wrow_args hpre hlay hrd hwl hlo
  show wpN (model PG w) _ _ _ _ _
  refine enter_callN ?_
  w_top on
  refine kn_postN hT9 (fun _ _ => rfl) ?_
  have he := Dflts.none hD rfl
  subst he
  have he := Dflts.noKw hD
  subst he
  refine call_cellsM (by decide) ho (fd_plain hd) (Top.nolimit T) hcd rfl (kinds_of (by kinds_ok)) (by decide) fun h₁ tk₁ cells F N0 X0 => ?_
  cells_open X0
  clear hd
  kn_ghosts F T
  k_drop
  (rename Fr _ _ _ _ => F9)
  have F8 := fr_script lifted F9 (by funext z; rfl)
  clear F9
  (rename _ ∧ _ => l0)
  with_unfolding_all refine law_all (sc := _) (by with_unfolding_all rfl) (by assumption) (by assumption) (by assumption) F8 (by assumption) (by assumption) (by assumption) ?_ ?_ ?_ ?_ ?_ ?_ ?_ l0.1 l0.2 ?_ lifted (by assumption) ?_ ?_
  iterate 7 (· exact Eq.trans (by assumption) (by with_unfolding_all rfl))
  · passes_own
  · omega
  · intro ps1 ps2 m' h' tk' F9 N9
    try dsimp only
    refine And.intro ?_ ⟨GrownAt.of N9 (.head _), GrownAt.of N9 (.tail _ (.head _)), True.intro⟩
    first | (k_end; wrow_close) | wrow_close)
end Mine
theorem PySem.Challenge.cw_zn0021_01_holds : PySem.Challenge.rw_zn0021_01.Holds := by
  exact Mine.law_walk
