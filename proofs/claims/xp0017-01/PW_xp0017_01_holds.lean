import PyProof.Rows.All
import Wide.All
import OpenK.AllK
import Wide.FinOn
import PyProof.ListNew
import KE.BytesMake
import KE.LcTurns
import PySem.Challenge.RW_xp0017_01
set_option Elab.async false
section
open PySem PySem.W PyProof.Rows
open Sem (wp)
set_option maxRecDepth 100000
namespace Mine
/-- the codes that a look for a held bytearray asks about -/
def badIds : List String := ["bytearray.__contains__", "bytearray.__mod__", "bytearray.__rmod__", "_struct.pack_into.held", "bytearray.find.held"] ++ Builtin.Bytes.decodersThatHold
def bad : Code → Bool
  | .builtin id _ => badIds.contains id
  | _ => false
def Clean (l : List (Code × Pos)) : Prop := ∀ x ∈ l, bad x.1 = false
/-- as wpAny, at the stacks where no such code runs -/
def wpC {α : Type} (M : Model) (A : Around) (t : Sem α) (Q : α → Shared → Prop) (E : Value → Shared → Prop) (s : Shared) : Prop :=
  ∀ Γ p, Γ.In A → Clean Γ.below → bad Γ.code = false → wp M Γ t (fun a _ s' => Q a s') (fun e _ s' => E e s') p s
def codeC (M : Model) (A : Around) (c : Code) (R : Result → Shared → Prop) (s : Shared) : Prop :=
  ∀ Γ p, Γ.code = c → Γ.Below A → Clean Γ.below → wpCode M Γ R p s
section
variable {α β : Type} {M : Model} {A : Around} {c : Code} {E : Value → Shared → Prop} {s : Shared}
theorem wpC_of {t : Sem α} {Q : α → Shared → Prop} (h : wpAny M A t Q E s) : wpC M A t Q E s := fun Γ p hΓ _ _ => h Γ p hΓ
theorem codeC_of {R : Result → Shared → Prop} (h : codeAny M A c R s) : codeC M A c R s := fun Γ p hc hΓ _ => h Γ p hc hΓ
theorem wpC_mono {t : Sem α} {Q Q' : α → Shared → Prop} {E' : Value → Shared → Prop} (h : wpC M A t Q E s) (hQ : ∀ a s, Q a s → Q' a s) (hE : ∀ e s, E e s → E' e s) : wpC M A t Q' E' s :=
  fun Γ p hΓ h1 h2 => Sem.wp_mono M Γ t (fun a _ s => hQ a s) (fun e _ s => hE e s) p s (h Γ p hΓ h1 h2)
theorem wpC_bind {m : Sem α} {f : α → Sem β} {Q : β → Shared → Prop} (h : wpC M A m (fun a s' => wpC M A (f a) Q E s') E s) : wpC M A (m >>= f) Q E s := fun Γ p hΓ h1 h2 => by
  rw [Sem.wp_bind']
  exact Sem.wp_mono M Γ m (fun a p' s' h' => h' Γ p' hΓ h1 h2) (fun _ _ _ h' => h') p s (h Γ p hΓ h1 h2)
theorem wpC_pure {a : α} {Q : α → Shared → Prop} (h : Q a s) : wpC M A (pure a) Q E s := wpC_of (wpAny_pure h)
theorem wpC_onRaise {m : Sem α} {k : Value → Sem Unit} {Q : α → Shared → Prop} (h : wpC M A m Q (fun e s' => wpAny M A (k e) (fun _ s'' => E e s'') E s') s) : wpC M A (m.onRaise k) Q E s := fun Γ p hΓ h1 h2 => by
  rw [Sem.wp_onRaise]
  exact Sem.wp_mono M Γ m (fun _ _ _ h' => h') (fun e p' s' h' => h' Γ p' hΓ) p s (h Γ p hΓ h1 h2)
theorem wpC_holding {vs : List Value} {m : Sem α} {Q : α → Shared → Prop} (h : wpC M A m Q E s) : wpC M A (holding vs m) Q E s := fun Γ p hΓ h1 h2 => by
  rw [Sem.wp_holding]; exact h Γ p hΓ h1 h2
theorem wpC_keep {vs : List Value} {m : Sem α} {Q : α → Shared → Prop} (h : wpC M A m Q E s) : wpC M A (m.keep vs) Q E s := fun Γ p hΓ h1 h2 => by
  rw [Sem.wp_keep]; exact h Γ p hΓ h1 h2
theorem wpC_stack {Q : List (Code × Pos) → Shared → Prop} (h : ∀ st, Clean st → Q st s) : wpC M A stack Q E s := fun Γ p _ h1 h2 => by
  show Q ((Γ.code, p) :: Γ.below) s
  refine h _ fun x hx => ?_
  rcases List.mem_cons.mp hx with rfl | hx
  · exact h2
  · exact h1 x hx
theorem wpC_runValue {c : Code} {Q : Value → Shared → Prop} (hc : codeC M A c (fun r s' => match r with | .ok (.ret v) => Q v s' | .ok _ => False | .error e => E e s') s) : wpC M A (runValue c) Q E s := fun Γ p hΓ h1 h2 => by
  rw [Sem.wp_runValue]
  refine hc _ p rfl (hΓ.enter c none p (by intro x; cases x)) fun x hx => ?_
  rcases List.mem_cons.mp hx with rfl | hx
  · exact h2
  · exact h1 x hx
theorem wpC_call {f : Value} {pos : List Value} {kw : List (Str × Value)} {Q : Value → Shared → Prop}
    (hc : codeC M A (.call f ⟨pos, kw⟩) (fun r s' => match r with | .ok (.ret v) => Q v s' | .ok _ => False | .error e => E e s') s) : wpC M A (call f pos kw) Q E s := wpC_runValue hc
theorem codeC_mono {R R' : Result → Shared → Prop} (h : codeC M A c R s) (hR : ∀ r s, R r s → R' r s) : codeC M A c R' s := fun Γ p hc hΓ h1 => wpCode_mono hR (h Γ p hc hΓ h1)
theorem codeC_of_tree {R : Result → Shared → Prop} (hb : bad c = false)
    (h : wpC M (A.under c) (M.den c) (fun fin s' => match fin with | .done f => R (.ok f) s' | .again c' => c'.quiet = true ∧ codeC M A c' R s') (fun e s' => R (.error e) s') s) : codeC M A c R s := fun Γ p hc hΓ h1 => by
  rw [wpCode_iff_wp, hc]
  refine Sem.wp_mono M Γ _ (fun fin p' s' h' => ?_) (fun _ _ _ h' => h') p s (h Γ p (hc ▸ hΓ.in) h1 (hc ▸ hb))
  cases fin with
  | done f => exact h'
  | again c' => exact ⟨h'.1, h'.2 (Γ.goto c') p' rfl (hΓ.goto c') h1⟩
theorem wpC_execs_cons {env : Env} {st : Stmt} {rest : List Stmt} {Q : Flow → Shared → Prop} (h : wpC M A (exec st env) (fun f s' => match f with | .next => wpC M A (execs rest env) Q E s' | f => Q f s') E s) :
    wpC M A (execs (st :: rest) env) Q E s := fun Γ p hΓ h1 h2 => by
  rw [execs_cons, Sem.wp_bind']
  refine Sem.wp_mono M Γ _ (fun f p' s' h' => ?_) (fun _ _ _ h' => h') _ _ (h Γ p hΓ h1 h2)
  cases f <;> first | exact h' Γ p' hΓ h1 h2 | exact h'
theorem wpC_Assign_Name {env : Env} {x : Str} {pos' pos : Pos} {value : Expr} {Q : Flow → Shared → Prop} (h : wpC M A (eval value env) (fun v s₁ => wpAny M A (storeName env x v) (fun _ => Q .next) E s₁) E s)
    (hs : swapsWith value (some (.Name x pos')) pos.line env = pure false := by rfl) : wpC M A (exec (.Assign [.Name x pos'] value pos) env) Q E s := fun Γ p hΓ h1 h2 => by
  simp only [exec_Assign_Name env x pos' value pos hs, Sem.wp_bind', Sem.wp_cmd_standAt, Sem.wp_bindName, Sem.wp_pure']
  exact Sem.wp_mono M Γ _ (fun v _ s₁ h₁ => h₁ Γ _ hΓ) (fun _ _ _ h' => h') _ _ (h Γ _ hΓ h1 h2)
end
section
variable {prog : Program} {w : World} {A : Around} {s : Shared} {R : Result → Shared → Prop}
theorem codeC_func {body : List Stmt} {env : Env}
    (h : wpC (model prog w) (A.deeper env) (execs body env) (fun f s' => R (.ok (.ret (match f with | .ret v => v | _ => .none))) s')
      (fun e s' => wpAny (model prog w) (A.deeper env) (leaving env e) (fun _ s'' => R (.error e) s'') (fun e' s'' => R (.error e') s'') s') s) :
    codeC (model prog w) A (.func body env) R s := by
  refine codeC_of_tree rfl ?_
  show wpC _ (A.deeper env) (do point; match ← (execs body env).onRaise (leaving env) with | .ret v => ret v | _ => ret .none) _ _ s
  refine wpC_bind (wpC_of (wpAny_point (wpC_bind (wpC_onRaise (wpC_mono h (fun f s' h' => ?_) fun _ _ h' => h')))))
  cases f <;> exact wpC_pure h'
theorem codeC_call_def {a : Addr} {o : Obj} {fd : FuncData} {body : List Stmt} {args : Args} {binds : List (Str × Value)}
    (hroom : A.depth < recursionLimit) (ho : s.heap.get? a = some o) (hdata : o.data = .func fd) (hlim : s.heap.NoLimit) (hcd : s.heap.CodeRec fd.code fd.qualname)
    (hbody : fd.body = .stmts body) (hbind : BindsTo s fd args binds) (hcell : ∀ x ∈ fd.scope.names, x.2 ≠ .cell) (hloc : ∀ x ∈ binds, fd.scope.names.lookup x.1 = some .local)
    (h : ∀ h₀, h₀.Ns s.heap.objs.size (fun x => binds.reverse.lookup x) → (∀ b o, s.heap.get? b = some o → h₀.get? b = some o) →
      wpC (model prog w) (A.deeper (callEnv fd s.heap.objs.size a)) (execs body (callEnv fd s.heap.objs.size a)) (fun f s' => R (.ok (.ret (match f with | .ret v => v | _ => .none))) s')
        (fun e s' => wpAny (model prog w) (A.deeper (callEnv fd s.heap.objs.size a)) (leaving (callEnv fd s.heap.objs.size a) e) (fun _ s'' => R (.error e) s'') (fun e' s'' => R (.error e') s'') s')
        { s with heap := h₀, toks := s.toks + binds.length })
    (hco : fd.scope.isCoroutine = false) (hgen : fd.scope.isGenerator = false) (hk : fd.scope.kind = .function) :
    codeC (model prog w) A (.call (.ref a) args) R s := by
  refine codeC_of_tree rfl (wpC_of ?_)
  show wpAny _ A.in1 (callAny (.ref a) args) _ _ s
  simp only [callAny]
  refine wpAny_bind (wpAny_load ho ?_)
  obtain ⟨c, oc, vs, tq, hc, hoc, hdc, hq⟩ := hcd
  simp only [hdata, callFunction, hco, hgen, hbody, hc]
  refine wpAny_bind (m := field (.ref c) 1) (wpAny_field hoc hdc hq (wpAny_bind (wpAny_pure ?_)))
  refine wpAny_bind (hbind _ _ _ _ (wpAny_bind ?_))
  have e := hc
  refine wpAny_newFunctionEnv hcell hloc (fun h₀ hns₀ hsb₀ => ?_) hk
  have hh := h h₀ hns₀ fun b o e => hsb₀.extBut b o (Nat.ne_of_lt (Heap.lt_size e)) (Heap.get?_push_of_some _ e)
  have hce : callEnv fd s.heap.objs.size a = _ := rfl
  simp only [callEnv, hc] at hh
  exact wpAny_bind (wpAny_enterFrame (hlim.fresh _ hsb₀) hroom (wpAny_pure (And.intro rfl (codeC_func hh))))
end
end Mine
end

section
open PySem PySem.W PySem.Calls PyProof.Rows
set_option maxRecDepth 100000
namespace Mine
/-- the caller's stack is clean: what is shown at clean stacks ends the thread -/
theorem ends_c {prog : Program} {w : World} {t : Sem PySem.Fin} {s : Shared} {R : Result → Shared → Prop} (hreg : s.asleep)
    (h : wpC (model prog w) callerA t (fun fin s' => ∃ f, fin = .done f ∧ (R (.ok f) s' ∧ leftWithCleanup s'.gens = false)) (fun e s' => R (.error e) s' ∧ leftWithCleanup s'.gens = false) s) :
    ∃ n r s' s'', runN (denote table) prog w n s ⟨t, .builtin "claim.caller" {}, default, []⟩ = .halted (outcomeOf r) s' ∧
      schedN (denote table) prog w n (.single s ⟨t, .builtin "claim.caller" {}, default, []⟩) = .halted (outcomeOf r) s' ∧ s'.forget = s''.forget ∧ R r s'' := by
  have h0 := h ⟨.builtin "claim.caller" {}, none, none, [], none⟩ default caller_in (fun _ hx => nomatch hx) rfl
  have h1 : Sem.wp (model prog w) ⟨.builtin "claim.caller" {}, none, none, [], none⟩ t (Sem.finPost (model prog w) ⟨.builtin "claim.caller" {}, none, none, [], none⟩ fun r s' => R r s' ∧ leftWithCleanup s'.gens = false)
      (fun e _ s' => R (.error e) s' ∧ leftWithCleanup s'.gens = false) default s := by
    refine Sem.wp_mono _ _ t (fun fin p' s' q => ?_) (fun _ _ _ q => q) _ _ h0
    obtain ⟨f, rfl, q1⟩ := q
    exact q1
  obtain ⟨n, r, s₁, s₂, hs, hn, hfo, hR⟩ := wp_halts_full (M := model prog w) (R := R) hreg h1
  exact ⟨n, r, s₂, s₁, hn, hs, hfo, hR⟩
theorem from_c {c : ClaimW} {tree : List Value → Sem PySem.Fin} {w : World} {s : Shared} {free : Addr → Prop} {gens : Prop} {kept : Heap → Prop} (hz : s.asleep) (hgens : s.gens = #[])
    (hspec : ∀ args, c.pre args = true → WData.layableAll args = true → ∀ ord : List DictEntry → List DictEntry, (∀ l, (ord l).Perm l) →
      ∃ vs s₁, layAllW c.records (classAt s.heap) w.params ord args s = some (vs, s₁) ∧
        wpC (model c.prog w) callerA (tree vs) (fun fin s' => ∃ f, fin = .done f ∧ (c.Ends s args vs s₁ (.ok f) s' ∧ s'.os = s.os ∧ AllBare s'.gens ∧ kept s'.heap))
          (fun e s' => c.Ends s args vs s₁ (.error e) s' ∧ s'.os = s.os ∧ AllBare s'.gens ∧ kept s'.heap) s₁) :
    c.CallFrom (fun vs => ⟨tree vs, .builtin "claim.caller" {}, default, []⟩) w free gens kept s := by
  intro args hpre hlay ord hord
  obtain ⟨vs, s₁, laid, walked⟩ := hspec args hpre hlay ord hord
  have rest := layAllW_rest _ _ _ laid
  have walked' := wpC_mono walked (Q' := fun fin s' => ∃ f, fin = .done f ∧ ((c.Ends s args vs s₁ (.ok f) s' ∧ s'.os = s.os ∧ kept s'.heap) ∧ leftWithCleanup s'.gens = false))
    (E' := fun e s' => (c.Ends s args vs s₁ (.error e) s' ∧ s'.os = s.os ∧ kept s'.heap) ∧ leftWithCleanup s'.gens = false)
    (fun _ _ ⟨f, e, q1, q2, q3, q4⟩ => ⟨f, e, ⟨q1, q2, q4⟩, leftWithCleanup_false_of_bare q3⟩) fun _ _ ⟨q1, q2, q3, q4⟩ => ⟨⟨q1, q2, q4⟩, leftWithCleanup_false_of_bare q3⟩
  obtain ⟨k, r, s', s'', ran, sched, same, ends, hos, hk⟩ := ends_c (prog := c.prog) (w := w) (t := tree vs) (s := s₁) (R := fun r s' => c.Ends s args vs s₁ r s' ∧ s'.os = s.os ∧ kept s'.heap) (Shared.asleep_of_life rest.2.2.2 hz) walked'
  obtain ⟨eh, _, _, eo, _⟩ := Shared.forget_eq same
  have ends' := ends.congr eh
  have hk' : kept s'.heap := by rw [eh]; exact hk
  rw [← eo] at hos
  have life : s'.heap.life = s.heap.life := (runN_life _ _ _ ran).trans rest.2.2.2
  refine ⟨vs, s₁, laid, k, _, s', sched, ?_, (fun _ i x hx => by rw [hgens] at hx; simp at hx), hk', by rw [life], Shared.rest_eq hos⟩
  rcases ends' with ⟨v, rfl, d1, d2, d3, d4, d5⟩ | ⟨e, ob, cls, rfl, d1, d2, d3, d4, d5⟩
  · exact .inl ⟨v, rfl, d1, d2, d3, fun b o y _ => d4 b o y, d5⟩
  · exact .inr ⟨e, ob, cls, rfl, d1, d2, d3, d4, fun b o y _ => d5 b o y⟩
/-- the walk that is asked of a law: at the clean stacks -/
abbrev WalkC (q : Program) (loose : List Str) (XP : (Str → Option Value) → Heap → Prop) (YP : World → Heap → Prop) (r : RowW) (d : DefRec) (kwd : List (Str × Expr)) : Prop :=
  ∀ (w : World) (s₀ s₁ : Shared) (mg mb : Str → Option Value), Ground q loose r.records XP w s₀ mg mb s₁.heap → YP w s₁.heap → ∀ (a : Addr) (o : Obj) (pm cd doc dV kV : Value), s₁.heap.get? a = some o →
    o.data = .func { docDef d.name d.params d.body d.scope pm cd doc with defaults := dV, kwdefaults := kV } → s₁.heap.CodeRec cd d.name → Dflts mg s₁.heap d.params kwd dV kV → mg d.name = some (.ref a) → s₁.gens = #[] →
    ∀ (args : List WData) (vals : List Value) (as : List Addr), r.claim.pre args = true → WData.layableAll args = true → ReadsAllW r.records (classAt s₀.heap) s₁.heap vals args as → WellAll w.params s₁.heap vals args → (∀ a ∈ as, (a == sysModules) = false) →
      wpC (model r.prog w) callerA (PySem.call (.ref a) vals) (fun v s' => GoodWG r.claim (classAt s₀.heap) (ExcName.means s₀.heap) args s₁ (.ok (.ret v)) s')
        (fun e s' => GoodWG r.claim (classAt s₀.heap) (ExcName.means s₀.heap) args s₁ (.error e) s') s₁
theorem PySem.W.holds_open {r : OpenRow} {q : Program} {loose : List Str} {Xt : Shared → Bool} {XP : (Str → Option Value) → Heap → Prop} {α : Type} {Yf : Shared → α} {Ya : World → α} {YP : World → Heap → Prop} {d : DefRec} {kwd : List (Str × Expr)} {N : Nat}
    (left : LeftO r.prog q loose Xt Yf Ya N) (hY : ∀ w s, Yf s = Ya w → YP w s.heap) (hYk : ∀ w h h', YP w h → (∀ b o, h.get? b = some o → h'.get? b = some o) → YP w h')
    (hX : ∀ s, Xt s = true → XP (s.heap.nsMap mainGlobals) s.heap) (hXk : ∀ mg h h', XP mg h → (∀ b o, h.get? b = some o → h'.get? b = some o) → XP mg h')
    (hdef : defOf q r.name = some (d, kwd)) (hp : r.prog.theDef r.name = some (d.params, d.body, d.scope)) (hk : kwWritten? d.params.kwonlyargs d.params.kw_defaults = some kwd) (hRf : ∀ s, Xt s = true → RecFacts r.records s.heap) (hwr : (!r.writes || r.records.isEmpty) = true)
    (k1 : r.wellSaid = true) (ok : (chainsOk q && opensWell r.prog && (frees r.toRowW && r.within.isEmpty)) = true) (hb : r.prog.bare) (hw : r.toRowW.promised)
    (walk : WalkC q loose XP YP r.toRowW d kwd) : r.Holds := by
  have ok' := ok
  obtain ⟨ok1, k5⟩ := Bool.and_eq_true_iff.mp ok
  obtain ⟨hch, o1⟩ := Bool.and_eq_true_iff.mp ok1
  obtain ⟨k5, k6⟩ := Bool.and_eq_true_iff.mp k5
  obtain ⟨hsame, hu, ha, hap, hm⟩ := frees_parts k5
  refine ⟨k1, hw, ⟨hb, o1, by show r.toRowW.makers.map _ = []; rw [hm]; rfl⟩, hw.witness, fun w => ⟨(left.behind hX hch w).1, fun s' hs' => ?_⟩⟩
  obtain ⟨s₀, hf, hg0, s, hT, hz, hgens, hg, G00, y⟩ := (left.behind (XP := fun mg h => XP mg h ∧ RecFacts r.records h) (fun s hs => ⟨hX s hs, hRf s hs⟩) hch w).2 s' hs'
  have G0 : Ground q loose [] XP w s (s.heap.nsMap mainGlobals) (s.heap.nsMap builtinsNs) s.heap := ⟨G00.T, G00.B, G00.D, G00.TE, G00.TD, G00.W, G00.X.1, G00.cls, G00.has, G00.apart, G00.once, G00.K⟩
  have RF := G00.X.2
  refine ⟨s₀, hf, hg0, s, hT, fun n hn => ?_, RF.1, RF.2.1, ?_⟩
  · obtain rfl : n = r.name := by split at hn <;> simp_all
    exact pinned_of_view hg G0 hdef hp hk
  have hgens' : s.gens = #[] := Array.eq_empty_of_size_eq_zero (beq_iff_eq.mp hgens)
  have G : Ground q loose r.records XP w s _ _ s.heap := RF.ground G0
  refine from_c (c := r.toRowW.claim) (tree := fun vs => do match ← nsGet mainNs r.name with
      | some f => do ret (← PySem.call f vs)
      | none => unsupported "claim.caller:no-such-global") hz hgens' fun args hpre hlay ord hord => ?_
  obtain ⟨⟨vs, s₁⟩, hlaid⟩ := Option.isSome_iff_exists.mp (layAllW_isSome (P := w.params) (ord := ord) G.has args r.args s (pre_splitW hpre).1)
  have keeps := layAllW_keeps _ _ _ hlaid
  have hal := layAllW_rest _ _ _ hlaid
  obtain ⟨as, hrd, hin, hold⟩ := reads_layAllW hord _ _ _ hlaid hlay s₁.heap (fun _ _ e => e)
  have L : Laid r.records w s s₁ args vs as := ⟨⟨ord, hord, hlaid⟩, hrd, hin, hold, keeps, hal.1.trans hgens', hal.2.2.1⟩
  have G₁ := G.keeps hXk keeps
  obtain ⟨a, o, pm, cd, doc, dV, kV, h1, h2, h3, h4, h5⟩ := G₁.fn hdef
  have h := walk w s s₁ _ _ G₁ (hYk _ _ _ (hY w s y) keeps) a o pm cd doc dV kV h2 h3 h4 h5 (defOf_name hdef ▸ h1) L.gens args vs as hpre hlay L.reads L.well (L.low G.low)
  have hi := ident_freeW hu ha hap
  have hwi : r.toRowW.claim.within = [] := List.isEmpty_iff.mp k6
  refine ⟨vs, s₁, hlaid, wpC_bind (wpC_of (wpAny_nsGet G₁.T.g ?_))⟩
  rw [h1]
  refine wpC_bind (wpC_mono h (fun v s' g => wpC_pure ⟨_, rfl, ?_⟩) fun e s' g => ?_)
  · have z := g.laid (c := r.toRowW.claim) hsame hwi hi L
    exact ⟨z.1, z.2.1, z.2.2, fun q => ⟨namesKept_of hT hg _ keeps g.2.1.old, noTable hwr q⟩⟩
  · have z := g.laid (c := r.toRowW.claim) hsame hwi hi L
    exact ⟨z.1, z.2.1, z.2.2, fun q => ⟨namesKept_of hT hg _ keeps g.2.1.old, noTable hwr q⟩⟩
end Mine
end

section
open PySem PySem.W PyProof.Rows
set_option maxRecDepth 100000
namespace Mine
section
local macro_rules | `(tactic| o_head $_) => `(tactic| assumption)
/-- writes out what part of the heap the law asks for -/
theorem hd (h : PySem.Challenge.rw_xp0017_01.row.Holds) : PySem.Challenge.rw_xp0017_01.row.Holds := by k_head
end
theorem pin {α β : Type} {o : Option (α × β)} {a : α} {b : β} {G : α → β → Prop} (e : o = some (a, b)) (g : G a b) : ∀ d k, o = some (d, k) → G d k := by
  intro d k h
  cases e.symm.trans h
  exact g
end Mine
end

section
open PySem PySem.W PyProof.Rows
set_option maxRecDepth 100000
namespace Mine
def keepAt (ks : List Nat) (l : List Stmt) : List Stmt := ks.filterMap fun k => l[k]?
/-- the text's statements that the law's call looks at -/
noncomputable def vwS : {l : List Stmt // keepAt [0, 2, 3, 9, 10, 12, 14, 15, 16, 17, 18, 19, 20] PySem.Challenge.rw_xp0017_01.row.prog.main.body = l} := ⟨[_, _, _, _, _, _, _, _, _, _, _, _, _], rfl⟩
noncomputable def vw : Program := { PySem.Challenge.rw_xp0017_01.row.prog with main := { PySem.Challenge.rw_xp0017_01.row.prog.main with body := vwS.1 } }
abbrev loose9 : List Str := [Str.ofString "insort_right", Str.ofString "bisect_right", Str.ofString "bisect_left", Str.ofString "_Accumulator"]
abbrev Says9 : World → Heap → Prop := fun w h => InK hd.heap_1 w h ∧ ∀ P ∈ [168], h.get? P = some (tabObj #[])
end Mine
end

section
open PySem PySem.W PyProof.Rows
set_option maxRecDepth 100000
namespace Mine
abbrev prog : Program := PySem.Challenge.rw_xp0017_01.row.prog

/-- what a call hands back: a value, the ledger with some new objects ahead of it -/
abbrev Ret (h₀ : Heap) (L : Addr) (m : Str → Option Value) (news : List (Addr × Obj)) (s : Shared) (Q : Value → Shared → Prop) (post : Value → List (Addr × Obj) → Prop) : Prop :=
  ∀ (v : Value) (news' : List (Addr × Obj)) (h' : Heap) (tk' : Nat), Fr h₀ L h' m → News h₀ L h' news' → post v news' → Q v { s with heap := h', toks := tk' }

/-- a def's contract: called with vs over the ledger `news`, it hands back v over the ledger news' as post says -/
def Claim (w : World) (f : Addr) (rd : Nat) (news : List (Addr × Obj)) (vs : List Value) (post : Value → List (Addr × Obj) → Prop) : Prop :=
  ∀ (p : Program) (loose : List Str) (mean : ExcName → Option Value) (mg mb : Str → Option Value)
    (dp un : Nat) (gd : Option (List Code)) (cn : Str) (cs : Scope) (a : Addr) (ccd : Value) (cl : List (Str × Addr)) (outer : List Env) (A₀ : Around) (base h₀ : Heap) (L : Addr) (m : Str → Option Value) (s : Shared) (Q E : Value → Shared → Prop),
    Below A₀ base outer h₀ → Fr h₀ L s.heap m → (hd.heap_1 w.params).In h₀ → News h₀ L s.heap news → Top p loose mean mg mb h₀ → cs.kind = .function →
    dp + rd ≤ 500 → un + 8 * rd ≤ 500 → Ret h₀ L m news s Q post →
      wpAny (model prog w) (ktrTop dp un gd cn cs L a ccd cl outer) (call (.ref f) vs) Q E s
end Mine
end

section
open PySem PySem.W PyProof.Rows
set_option maxRecDepth 100000
namespace Mine
/-- where a law is worst: if it holds there, it holds at all -/
noncomputable def worst {α : Type} (d : α) (P : α → Prop) : α := @Classical.epsilon α ⟨d⟩ fun x => ¬ P x
theorem of_worst {α : Type} {c d : α} {P : α → Prop} (e : c = worst d P) (h : P c) (x : α) : P x := by
  subst e
  exact Classical.byContradiction fun hx => (@Classical.epsilon_spec α (fun x => ¬P x) ⟨x, hx⟩) h
/-- what a stage leaves to the next, out of the walk's sight -/
inductive Hid (P : Prop) : Prop
  | mk (out : P) : Hid P
theorem Hid.out {P : Prop} : Hid P → P
  | .mk h => h
set_option genInjectivity false in
set_option genSizeOf false in
/-- what stands around a call -/
structure Cx where
  p : Program
  loose : List Str
  mean : ExcName → Option Value
  mg : Str → Option Value
  mb : Str → Option Value
  dp : Nat
  un : Nat
  gd : Option (List Code)
  cn : Str
  cs : Scope
  a : Addr
  ccd : Value
  cl : List (Str × Addr)
  outer : List Env
  A₀ : Around
  base : Heap
  h₀ : Heap
  L : Addr
  m : Str → Option Value
  s : Shared
  Q : Value → Shared → Prop
  E : Value → Shared → Prop
noncomputable abbrev w0 : World := aWorld 1
noncomputable abbrev hp0 : Heap := (start prog).1.heap
noncomputable def cx0 : Cx := ⟨prog, [], fun _ => none, fun _ => none, fun _ => none, 0, 0, none, ⟨#[]⟩, prog.main.scope, 0, .none, [], [], {}, hp0, hp0, 0, fun _ => none, (start prog).1, fun _ _ => True, fun _ _ => True⟩
/-- a def's contract at one place -/
def ClaimAt (w : World) (f : Addr) (rd : Nat) (news : List (Addr × Obj)) (vs : List Value) (post : Value → List (Addr × Obj) → Prop) (c : Cx) : Prop :=
  Below c.A₀ c.base c.outer c.h₀ → Fr c.h₀ c.L c.s.heap c.m → (hd.heap_1 w.params).In c.h₀ → News c.h₀ c.L c.s.heap news → Top c.p c.loose c.mean c.mg c.mb c.h₀ → c.cs.kind = .function →
    c.dp + rd ≤ 500 → c.un + 8 * rd ≤ 500 → Ret c.h₀ c.L c.m news c.s c.Q post →
      wpAny (model prog w) (ktrTop c.dp c.un c.gd c.cn c.cs c.L c.a c.ccd c.cl c.outer) (call (.ref f) vs) c.Q c.E c.s
theorem claim_of {f : Addr} {rd : Nat} {w : World} {news : List (Addr × Obj)} {vs : List Value} {post : Value → List (Addr × Obj) → Prop} (h : ∀ c : Cx, ClaimAt w f rd news vs post c) : Claim w f rd news vs post :=
  fun p loose mean mg mb dp un gd cn cs a ccd cl outer A₀ base h₀ L m s Q E => h ⟨p, loose, mean, mg, mb, dp, un, gd, cn, cs, a, ccd, cl, outer, A₀, base, h₀, L, m, s, Q, E⟩
end Mine
end

section
open PySem PySem.W PyProof.Rows
set_option maxRecDepth 100000
namespace Mine
theorem fillK : PySem.Challenge.rw_xp0017_01 = PySem.Challenge.rw_xp0017_01 ∧ hd.heap_1 = hd.heap_1 := by
  w_top off
  k_fill
  exact ⟨rfl, rfl⟩
def GoneOn (l : List Int) (size e r : Nat) : Prop :=
  e ≤ r ∧ r ≤ l.length ∧ (∀ x, e ≤ x → x < r → l.getD x 0 = l.getD (x - size) 0) ∧ (r < l.length → l.getD r 0 ≠ l.getD (r - size) 0)
def locals (l : List (Str × Value)) : Str → Option Value := fun y => l.lookup y

set_option maxHeartbeats 4000000 in
theorem goesOn_claim (w : World) (news : List (Addr × Obj)) (b : Array UInt8) (l : List Int) (hb : KBw.bInts b = l) (hl : l.length ≤ 9) (size e : Nat) (hse : size ≤ e) (hel : e ≤ l.length) (t1 t2 t3 : Tok) :
    Claim w 180 4 news [.bytes b t1, .int size t2, .int e t3] (fun v news' => news' = news ∧ ∃ r t, v = .int (r : Nat) t ∧ GoneOn l size e r) := by
  unfold Claim
  intro p loose mean mg mb dp un gd cn cs a ccd cl outer A₀ base h₀ L m s Q E B F X N T hk hdp hun hret
  refine wpAny_call ?_
  k_dflt ktr_enter
  rename_i g' L' h' FG' F' N' B' X' T'
  refine wpAny_execs_cons ?_
  with_unfolding_all refine' ksw_while (σ := Nat × Tok) (fun _ => news) (fun c => [(Str.ofString "end", Value.int (c.1 : Nat) c.2)]) (fun _ => True) [Str.ofString "end"] (fun c => e ≤ c.1 ∧ c.1 ≤ l.length ∧ (∀ x, e ≤ x → x < c.1 → l.getD x 0 = l.getD (x - size) 0)) (fun c => l.length - c.1) (e, t3) F' N' trivial ?k1 ?k2 ?k3 
  case k1 => exact List.forall_mem_cons.mpr ⟨rfl, List.forall_mem_nil _⟩
  case k2 => exact ⟨Nat.le_refl _, hel, fun x h1 h2 => absurd h2 (by omega)⟩
  intro c u h tk _ hP F1 N1
  k_steps
  · rename List.getD l _ _ = _ => heq
    rw [Int.toNat_natCast, show ((c.1 : Int) - (size : Int)).toNat = c.1 - size by omega] at heq
    refine ksw_end (c.1 + 1, _) (by k_asm) (by k_asm) (fun _ h => h) trivial (List.forall_mem_cons.mpr ⟨rfl, List.forall_mem_nil _⟩) ?_ ?_ ?_
    · intro z h2 h3
      have hz : z ≠ Str.ofString "end" := h2 _ (.head _)
      simp only [kstB, if_neg hz, h3, Bool.false_eq_true, if_false]
    · refine ⟨by have := hP.1; omega, by omega, fun x h1 h2 => ?_⟩
      by_cases hx : x = c.1
      · subst hx; exact heq
      · exact hP.2.2 x h1 (by omega)
    · show l.length - (c.1 + 1) < l.length - c.1
      omega
  · rename List.getD l _ _ ≠ _ => heq
    rw [Int.toNat_natCast, show ((c.1 : Int) - (size : Int)).toNat = c.1 - size by omega] at heq
    refine hret _ _ _ _ (by k_asm) (by k_asm) ⟨rfl, c.1, _, rfl, hP.1, hP.2.1, hP.2.2, fun _ => heq⟩
  · refine hret _ _ _ _ (by k_asm) (by k_asm) ⟨rfl, c.1, _, rfl, hP.1, hP.2.1, hP.2.2, fun h => ?_⟩
    omega
end Mine
end

section
open PySem PySem.W PyProof.Rows
set_option maxRecDepth 100000
namespace Mine
theorem runs_toks {M : Model} {Γ : Ctx} {p : Pos} {t : Sem Fin} {fs : List Frame} {s : Shared} {e : End} {s' : Shared} (h : Runs M Γ p t fs s e s') : s.toks ≤ s'.toks := by
  induction h <;> (try simp only [Shared.setGen] at *) <;> first | exact Nat.le_refl _ | assumption | omega
theorem wakes_toks {M : Model} {Γ : Ctx} {p : Pos} {g : Nat} {r : Resume} {s : Shared} {res : GenResult} {s' : Shared} (h : Wakes M Γ p g r s res s') : s.toks ≤ s'.toks := by
  unfold Wakes at h
  split at h
  · exact h.elim
  · split at h
    · obtain ⟨e₁, s₁, hr, _, _, rfl⟩ := h
      have := runs_toks hr
      simpa [Shared.setGen] using this
    · rw [h.2]; exact Nat.le_refl _
    · rw [h.2]; exact Nat.le_refl _
  · obtain ⟨e₁, s₁, hr, _, _, rfl⟩ := h
    have := runs_toks hr
    simpa [Shared.setGen] using this
  · rw [h.2]; exact Nat.le_refl _
  · rw [h.2]; exact Nat.le_refl _
theorem wp_toks {α : Type} (M : Model) (Γ : Ctx) (t : Sem α) : ∀ (Q : α → Pos → Shared → Prop) (E : Value → Pos → Shared → Prop) (p : Pos) (s : Shared) (n : Nat), n ≤ s.toks →
    Sem.wp M Γ t Q E p s → Sem.wp M Γ t (fun a p' s' => n ≤ s'.toks ∧ Q a p' s') (fun e p' s' => n ≤ s'.toks ∧ E e p' s') p s := by
  induction t with
  | pure a => intro Q E p s n hn h; exact ⟨hn, h⟩
  | raise e => intro Q E p s n hn h; exact ⟨hn, h⟩
  | unsupported => intro Q E p s n hn h; exact h
  | finish => intro Q E p s n hn h; exact h
  | rule _ k ih => intro Q E p s n hn h; exact ih () Q E p s n hn h
  | «at» q k ih => intro Q E p s n hn h; exact ih () Q E q s n hn h
  | load a _ k ih => intro Q E p s n hn h; obtain ⟨o, ho, h⟩ := h; exact ⟨o, ho, ih o Q E p s n hn h⟩
  | update a _ f k ih => intro Q E p s n hn h; exact ⟨h.1, ih () Q E p _ n hn h.2⟩
  | loadIfAlive a k ih => intro Q E p s n hn h; exact ih _ Q E p s n hn h
  | point _ k ih => intro Q E p s n hn h; exact ih () Q E p s n hn h
  | register => intro Q E p s n hn h; exact h
  | alloc o k ih => intro Q E p s n hn h; exact ih _ Q E p _ n hn h
  | fresh k ih => intro Q E p s n hn h; exact ih _ Q E p _ n (Nat.le_succ_of_le hn) h
  | ask k ih => intro Q E p s n hn h; exact ih _ Q E p s n hn h
  | choose src m k ih => intro Q E p s n hn h; exact ⟨h.1, ih _ Q E p _ n hn h.2⟩
  | os q _ k ih => intro Q E p s n hn h; exact ih _ Q E p _ n hn h
  | call c hd g l k ih =>
    intro Q E p s n hn h
    obtain ⟨r, s', hr, h⟩ := h
    exact ⟨r, s', hr, ih r Q E p s' n (Nat.le_trans hn (runs_toks hr)) h⟩
  | handled own k ih => intro Q E p s n hn h; exact ih _ Q E p s n hn h
  | newGen c k ih => intro Q E p s n hn h; exact ih _ Q E p _ n hn h
  | genState g k ih => intro Q E p s n hn h; obtain ⟨st, hst, h⟩ := h; exact ⟨st, hst, ih _ Q E p s n hn h⟩
  | resume g r _ k ih =>
    intro Q E p s n hn h
    obtain ⟨res, s', hw, h⟩ := h
    exact ⟨res, s', hw, ih _ Q E p s' n (Nat.le_trans hn (wakes_toks hw)) h⟩
  | yield => intro Q E p s n hn h; exact h
  | stack k ih => intro Q E p s n hn h; exact ih _ Q E p s n hn h
  | fork => intro Q E p s n hn h; exact h
  | thread k ih => intro Q E p s n hn h; exact ih _ Q E p s n hn h
  | await => intro Q E p s n hn h; exact h
/-- no step lowers the count of tokens -/
theorem with_toks {α : Type} {M : Model} {A : Around} {t : Sem α} {Q : α → Shared → Prop} {E : Value → Shared → Prop} {s : Shared}
    (h : wpAny M A t (fun a s' => s.toks ≤ s'.toks → Q a s') (fun e s' => s.toks ≤ s'.toks → E e s') s) : wpAny M A t Q E s := by
  intro Γ p hΓ
  exact Sem.wp_mono M Γ t (fun a _ s' h' => h'.2 h'.1) (fun e _ s' h' => h'.2 h'.1) p s (wp_toks M Γ t _ _ p s s.toks (Nat.le_refl _) (h Γ p hΓ))
end Mine
end

section
open PySem PySem.W PyProof.Rows
set_option maxRecDepth 100000
namespace Mine
/-- each sign c told as z -/
def rep (c : Nat) (z : List Nat) (l : List Nat) : List Nat := l.flatMap fun k => if k = c then z else [k]
theorem rep_append (c : Nat) (z a b : List Nat) : rep c z (a ++ b) = rep c z a ++ rep c z b := by simp [rep]
theorem rep_free (c : Nat) (z : List Nat) : ∀ l : List Nat, c ∉ l → rep c z l = l
  | [], _ => rfl
  | k :: r, h => by
    have h1 : ¬ k = c := fun e => h (e ▸ List.mem_cons_self ..)
    have h2 : c ∉ r := fun m => h (List.mem_cons_of_mem _ m)
    have ih := rep_free c z r h2
    unfold rep at ih ⊢
    rw [List.flatMap_cons, if_neg h1, ih]; rfl
theorem rep_join (c : Nat) (z : Str) : ∀ parts : List Str, (∀ p ∈ parts, c ∉ p.cps.toList) → rep c z.cps.toList (Str.join ⟨#[c]⟩ parts).cps.toList = (Str.join z parts).cps.toList
  | [], _ => rfl
  | [p], h => rep_free c _ _ (h p (List.mem_singleton.mpr rfl))
  | p :: q :: r, h => by
    have ih := rep_join c z (q :: r) fun a ha => h a (List.mem_cons_of_mem _ ha)
    show rep c z.cps.toList (p ++ ⟨#[c]⟩ ++ Str.join ⟨#[c]⟩ (q :: r)).cps.toList = (p ++ z ++ Str.join z (q :: r)).cps.toList
    simp only [Str.cps_append, Array.toList_append]
    rw [rep_append, rep_append, ih, rep_free c _ _ (h p (List.mem_cons_self ..))]
    have : rep c z.cps.toList [c] = z.cps.toList := by simp [rep]
    rw [this]
theorem replace_rep (x z : Str) (c : Nat) : (Txt.replace x ⟨#[c]⟩ z).cps.toList = rep c z.cps.toList x.cps.toList := by
  rw [StrLaws.replace_one, ← rep_join c z _ (StrLaws.split_free x c), StrLaws.join_split]
theorem str_ext {x y : Str} (h : x.cps.toList = y.cps.toList) : x = y := by
  obtain ⟨a⟩ := x
  obtain ⟨b⟩ := y
  exact congrArg Str.mk (Array.ext' h)
theorem replace_none (x z : Str) (c : Nat) (h : (Builtin.Str.occurrences x ⟨#[c]⟩ 0 x.length 1).isEmpty = true) : Txt.replace x ⟨#[c]⟩ z = x := by
  have h1 := StrLaws.found_one x c
  rw [h] at h1
  have h2 : c ∉ x.cps.toList := of_decide_eq_false h1.symm
  have h3 := replace_rep x z c
  rw [rep_free c _ _ h2] at h3
  exact str_ext h3
theorem rep_len (c : Nat) (z : List Nat) (hz : z.length ≤ 5) : ∀ l : List Nat, (rep c z l).length ≤ 5 * l.length
  | [] => by simp [rep]
  | k :: r => by
    have ih := rep_len c z hz r
    unfold rep at ih ⊢
    rw [List.flatMap_cons, List.length_append, List.length_cons]
    by_cases h : k = c
    · rw [if_pos h]; omega
    · rw [if_neg h]; simp only [List.length_cons, List.length_nil]; omega
theorem str_len (x : Str) : x.length = x.cps.toList.length := by show x.cps.size = _; simp
theorem replace_len {x z : Str} {c n : Nat} (hx : x.length ≤ n) (hz : z.length ≤ 5) : (Txt.replace x ⟨#[c]⟩ z).length ≤ 5 * n := by
  rw [str_len, replace_rep]
  rw [str_len] at hx hz
  have := rep_len c z.cps.toList hz x.cps.toList
  omega
def esc (x : Str) : Str := Txt.replace (Txt.replace (Txt.replace (Txt.replace x "&" "&amp;") "<" "&lt;") ">" "&gt;") "\r" "&#xD;"
theorem lit1 : (Str.ofString "&") = ⟨#[38]⟩ := by decide
theorem lit2 : (Str.ofString "<") = ⟨#[60]⟩ := by decide
theorem lit3 : (Str.ofString ">") = ⟨#[62]⟩ := by decide
theorem lit4 : (Str.ofString "\r") = ⟨#[13]⟩ := by decide
theorem rn1 {x z : Str} (h : (Builtin.Str.occurrences x (Str.ofString "&") 0 x.length 1).isEmpty = true) : Txt.replace x (Str.ofString "&") z = x := by rw [lit1] at h ⊢; exact replace_none x z _ h
theorem rn2 {x z : Str} (h : (Builtin.Str.occurrences x (Str.ofString "<") 0 x.length 1).isEmpty = true) : Txt.replace x (Str.ofString "<") z = x := by rw [lit2] at h ⊢; exact replace_none x z _ h
theorem rn3 {x z : Str} (h : (Builtin.Str.occurrences x (Str.ofString ">") 0 x.length 1).isEmpty = true) : Txt.replace x (Str.ofString ">") z = x := by rw [lit3] at h ⊢; exact replace_none x z _ h
theorem rn4 {x z : Str} (h : (Builtin.Str.occurrences x (Str.ofString "\r") 0 x.length 1).isEmpty = true) : Txt.replace x (Str.ofString "\r") z = x := by rw [lit4] at h ⊢; exact replace_none x z _ h
theorem rl1 {x z : Str} {n : Nat} (hx : x.length ≤ n) (hz : z.length ≤ 5) : (Txt.replace x (Str.ofString "&") z).length ≤ 5 * n := by rw [lit1]; exact replace_len hx hz
theorem rl2 {x z : Str} {n : Nat} (hx : x.length ≤ n) (hz : z.length ≤ 5) : (Txt.replace x (Str.ofString "<") z).length ≤ 5 * n := by rw [lit2]; exact replace_len hx hz
theorem rl3 {x z : Str} {n : Nat} (hx : x.length ≤ n) (hz : z.length ≤ 5) : (Txt.replace x (Str.ofString ">") z).length ≤ 5 * n := by rw [lit3]; exact replace_len hx hz
theorem rl4 {x z : Str} {n : Nat} (hx : x.length ≤ n) (hz : z.length ≤ 5) : (Txt.replace x (Str.ofString "\r") z).length ≤ 5 * n := by rw [lit4]; exact replace_len hx hz
/-- how each sign is told -/
def escCode (c : Nat) : List Nat := if c = 38 then [38, 97, 109, 112, 59] else if c = 60 then [38, 108, 116, 59] else if c = 62 then [38, 103, 116, 59] else if c = 13 then [38, 35, 120, 68, 59] else [c]
theorem esc_flat (x : Str) : (esc x).cps.toList = x.cps.toList.flatMap escCode := by
  unfold esc
  rw [lit1, lit2, lit3, lit4, replace_rep, replace_rep, replace_rep, replace_rep]
  generalize x.cps.toList = l
  have e1 : (Str.ofString "&amp;").cps.toList = [38, 97, 109, 112, 59] := by decide
  have e2 : (Str.ofString "&lt;").cps.toList = [38, 108, 116, 59] := by decide
  have e3 : (Str.ofString "&gt;").cps.toList = [38, 103, 116, 59] := by decide
  have e4 : (Str.ofString "&#xD;").cps.toList = [38, 35, 120, 68, 59] := by decide
  rw [e1, e2, e3, e4]
  induction l with
  | nil => rfl
  | cons k r ih =>
    have h : ∀ (c : Nat) (z : List Nat) (k : Nat) (r : List Nat), rep c z (k :: r) = rep c z [k] ++ rep c z r := fun c z k r => rep_append c z [k] r
    rw [h, rep_append, rep_append, rep_append, ih, List.flatMap_cons]
    congr 1
    unfold escCode
    by_cases h1 : k = 38
    · subst h1; decide
    · by_cases h2 : k = 60
      · subst h2; decide
      · by_cases h3 : k = 62
        · subst h3; decide
        · by_cases h4 : k = 13
          · subst h4; decide
          · simp [rep, h1, h2, h3, h4]
theorem esc_len {x : Str} {n : Nat} (hx : x.length ≤ n) : (esc x).length ≤ 625 * n := by
  have := rl4 (z := Str.ofString "&#xD;") (rl3 (z := Str.ofString "&gt;") (rl2 (z := Str.ofString "&lt;") (rl1 (z := Str.ofString "&amp;") hx (by decide)) (by decide)) (by decide)) (by decide)
  unfold esc
  omega
theorem ll2 {x : Str} (h : x.length ≤ 200) : x.length ≤ 1048576 := by omega
theorem lla {x y z : Str} {c : Nat} (hy : y = ⟨#[c]⟩) (h : x.length ≤ 200) (hz : z.length ≤ 5) : (Txt.replace x y z).length ≤ 1048576 := by
  subst hy
  have := replace_len (c := c) h hz
  omega
theorem llb {x y z y' z' : Str} {c c' : Nat} (hy : y = ⟨#[c]⟩) (hy' : y' = ⟨#[c']⟩) (h : x.length ≤ 200) (hz : z.length ≤ 5) (hz' : z'.length ≤ 5) : (Txt.replace (Txt.replace x y z) y' z').length ≤ 1048576 := by
  subst hy hy'
  have := replace_len (c := c') (replace_len (c := c) h hz) hz'
  omega
theorem llc {x y z y' z' y'' z'' : Str} {c c' c'' : Nat} (hy : y = ⟨#[c]⟩) (hy' : y' = ⟨#[c']⟩) (hy'' : y'' = ⟨#[c'']⟩) (h : x.length ≤ 200) (hz : z.length ≤ 5) (hz' : z'.length ≤ 5) (hz'' : z''.length ≤ 5) :
    (Txt.replace (Txt.replace (Txt.replace x y z) y' z') y'' z'').length ≤ 1048576 := by
  subst hy hy' hy''
  have := replace_len (c := c'') (replace_len (c := c') (replace_len (c := c) h hz) hz') hz''
  omega
end Mine
end

section
open PySem PySem.W PyProof.Rows
set_option maxRecDepth 100000
namespace Mine
theorem fillK1 : PySem.Challenge.rw_xp0017_01 = PySem.Challenge.rw_xp0017_01 ∧ hd.heap_1 = hd.heap_1 := by
  w_top off
  k_fill
  exact ⟨rfl, rfl⟩
set_option maxHeartbeats 4000000 in
theorem asItIs_claim (w : World) (news : List (Addr × Obj)) (x : Str) (t : Tok) :
    Claim w 166 4 news [.str x t] (fun v news' => news' = news ∧ ∃ t, v = .str x t) := by
  unfold Claim
  intro p loose mean mg mb dp un gd cn cs a ccd cl outer A₀ base h₀ L m s Q E B F X N T hk hdp hun hret
  refine wpAny_call ?_
  k_dflt ktr_enter
  rename_i g' L' h' FG' F' N' B' X' T'
  k_steps
  refine hret _ _ _ _ (by k_asm) (by k_asm) ⟨rfl, _, rfl⟩

theorem gen_toks {α : Type} {M : Model} {A : Around} {t : Sem α} {Q : α → Shared → Prop} {E : Value → Shared → Prop} {h : Heap} {g : Array GenState} {d : Drawn} {X : Nat} {os : OsState}
    (h0 : 0 < X) (k : ∀ tk, 0 < tk → wpAny M A t Q E ⟨h, g, d, tk, os⟩) : wpAny M A t Q E ⟨h, g, d, X, os⟩ := k X h0
theorem replaceP {prog : Program} {w : World} {A : Around} {E : Value → Shared → Prop} {s : Shared} {x y z : Str} {t u v : Tok} {Q : Value → Shared → Prop} (hs : 0 < s.toks) (hu : @LT.lt Nat _ 0 u) (hv : @LT.lt Nat _ 0 v) (huv : @LT.lt Nat _ u v) (hyz : (y == z) = false) (hx : x.length ≤ 1048576) (hz : z.length ≤ 14)
    (hq : ∀ t' k, 0 < k → Q (.str (Txt.replace x y z) t') { s with toks := k }) : wpAny (model prog w) A (call (.builtin "str.replace") [.str x t, .str y u, .str z v]) Q E s :=
  with_toks (SC.replaceW (Nat.ne_of_gt hu) (Nat.ne_of_gt hv) (Nat.ne_of_lt huv) hyz hx hz fun t' k hk => hq t' k (Nat.lt_of_lt_of_le hs hk))
local macro_rules | `(tactic| walk_at "execs cons") => `(tactic| ((refine gen_toks (by first | omega | (dsimp only; omega) | (simp; omega)) ?_); intro tk htk; (with_reducible refine wpAny_execs_cons ?_); try dsimp only))
local macro_rules | `(tactic| walk_at "execs nil") => `(tactic| fail "no")
local macro_rules | `(tactic| walk_at "call builtin:str.replace") => `(tactic| ((refine replaceP ?k1 ?k2 ?k3 ?k4 ?k5 ?k6 ?k7 ?_); (case k1 => first | omega | (dsimp only; omega)); (case k2 => first | omega | (dsimp only; omega)); (case k3 => first | omega | (dsimp only; omega)); (case k4 => first | omega | (dsimp only; omega)); (case k5 => decide); (case k6 => with_reducible first | exact ll2 (by assumption) | exact lla (by first | exact lit1 | exact lit2 | exact lit3) (by assumption) (by decide) | exact llb (by first | exact lit1 | exact lit2 | exact lit3) (by first | exact lit1 | exact lit2 | exact lit3) (by assumption) (by decide) (by decide) | exact llc lit1 lit2 lit3 (by assumption) (by decide) (by decide) (by decide)); (case k7 => decide); intro _ _ _))

def EscP (e : (World × List (Addr × Obj) × Str × Tok) × Cx) : Prop :=
  e.1.2.2.1.length ≤ 200 → ClaimAt e.1.1 35 4 e.1.2.1 [.str e.1.2.2.1 e.1.2.2.2] (fun v news' => news' = e.1.2.1 ∧ ∃ t, v = .str (esc e.1.2.2.1) t) e.2
@[irreducible] noncomputable def escE : (World × List (Addr × Obj) × Str × Tok) × Cx := worst ((w0, [], ⟨#[]⟩, 0), cx0) EscP
set_option maxHeartbeats 4000000 in
noncomputable def escS : {P : Heap → Addr → Heap → Prop // (∀ g L h, P g L h) → EscP escE} := by
  refine ⟨?P, fun H => ?_⟩
  rotate_left
  unfold EscP ClaimAt
  intro hx B F X N T hk hdp hun hret
  refine wpAny_call ?_
  k_dflt ktr_enter
  rename_i g' L' h' FG' F' N' B' X' T'
  revert hx B F X N T hk hdp hun hret FG' F' N' B' X' T'
  dsimp only
  exact H g' L' h'
@[irreducible] noncomputable def escF : Heap × Addr × Heap := worst (hp0, 0, hp0) fun e => escS.1 e.1 e.2.1 e.2.2
set_option maxHeartbeats 4000000 in
theorem esc_t : escS.1 escF.1 escF.2.1 escF.2.2 := by
  unfold escS
  dsimp only
  intro hx B F X N T hk hdp hun hret FG' F' N' B' X' T'
  refine gen_toks (Nat.lt_of_lt_of_le Nat.zero_lt_one (Nat.le_add_left _ _)) ?_
  intro tk htk
  k_steps
  all_goals (clear B F N X T B' X' T' FG'; (refine' hret _ _ _ _ ?a ?b ?c); (case a => k_asm); (case b => k_asm); (case c => exact ⟨rfl, _, congrArg (fun y => Value.str y _) (by (simp (disch := with_reducible assumption) only [esc, rn1, rn2, rn3, rn4]))⟩))
theorem esc_claim (w : World) (news : List (Addr × Obj)) (x : Str) (hx : x.length ≤ 200) (t : Tok) :
    Claim w 35 4 news [.str x t] (fun v news' => news' = news ∧ ∃ t, v = .str (esc x) t) :=
  claim_of fun c => of_worst (P := EscP) (by with_unfolding_all rfl) (escS.2 fun g L h => of_worst (P := fun e => escS.1 e.1 e.2.1 e.2.2) (by with_unfolding_all rfl) esc_t (g, L, h)) ((w, news, x, t), c) hx
end Mine
end

section
open PySem PySem.W PySem.W.X PyProof.Rows
set_option maxRecDepth 100000
namespace Mine
theorem fillK3 : PySem.Challenge.rw_xp0017_01 = PySem.Challenge.rw_xp0017_01 ∧ hd.heap_1 = hd.heap_1 := by
  w_top off
  k_fill
  exact ⟨rfl, rfl⟩
abbrev shelfObj (dx : Addr) (items : Array Value) (n : Nat) : Obj := { cls := .ref 141, dict := some dx, data := .seq items n, slots := #[] }
theorem shelf_inst {h₀ h : Heap} {L x dx : Addr} {news : List (Addr × Obj)} {od : Obj} {items : Array Value} {n : Nat} (N : News h₀ L h news) (h1 : (x, shelfObj dx items n) ∈ news) (h2 : (dx, od) ∈ news) :
    InstAt h x (shelfObj dx items n) 141 (some od) := ⟨(N _ h1).1, rfl, rfl, (N _ h2).1⟩
section
variable {w : World} {A : Around} {E : Value → Shared → Prop} {s : Shared} {x dx : Addr} {items : Array Value} {n : Nat} {od : Obj}
theorem shelf_is_list (X : (hd.heap_1 w.params).In s.heap) (I : InstAt s.heap x (shelfObj dx items n) 141 (some od)) : Looks (model prog w) s.heap (isInstance (.ref x) (.type "list")) true :=
  I.type.andThen (looks_mroIn X (by k_is))
/-- a method of `list` met at a shelf -/
theorem shelf_method {name : Str} {id : String} {pl : Sem Bool} {Q : Value × List Value → Shared → Prop} (X : (hd.heap_1 w.params).In s.heap) (I : InstAt s.heap x (shelfObj dx items n) 141 (some od))
    (hf : findIn (hd.heap_1 w.params) (.ref 141) name = some (some (.builtin id))) (ht : typeOf (.builtin id) = pure (.type "method_descriptor")) (hs : lookIn name od = some none) (h : Q (.builtin id, [.ref x]) s) :
    wpAny (model prog w) A (getMethod (.ref x) name pl) Q E s := by
  have hcan : (Manifest.canonical "list.__getattribute__" != "object.__getattribute__") = false := by decide +kernel
  unfold getMethod specialOf
  refine wpAny_bind (wpAny_bind (I.type.here ((looks_findIn X (r := some (.builtin "list.__getattribute__")) (by k_is)).here ?_)))
  dsimp only
  rw [hcan, if_neg Bool.false_ne_true]
  refine wpAny_bind (wpAny_bind (I.type.here ((looks_findIn X (r := none) (by k_is)).here ?_)))
  refine wpAny_bind (wpAny_bind (I.type.here ((looks_findIn X hf).here (wpAny_bind (wpAny_of_eq ht ?_)))))
  rw [if_neg (by decide +kernel)]
  refine wpAny_bind (wpAny_loadPart I.at_ ?_)
  refine wpAny_bind (wpAny_bind (wpAny_loadPart I.dict ?_))
  rw [nsLook_of hs]
  exact wpAny_pure (wpAny_bind (wpAny_rule (wpAny_pure h)))
/-- a built-in of `list` called upon a shelf -/
theorem shelf_call {id n' : String} {b : Builtin} {rest : List Value} {Q : Value → Shared → Prop} (X : (hd.heap_1 w.params).In s.heap) (I : InstAt s.heap x (shelfObj dx items n) 141 (some od))
    (hp : plainId id = true) (he : entryFor table id = some b) (hk : builtinKind id = some .slot ∨ builtinKind id = some .method) (hs : splitId id = some ("list", n')) (ha : argsOk id ⟨.ref x :: rest, []⟩)
    (h : wpAny (model prog w) A.in1 (b ⟨.ref x :: rest, []⟩) (fun fin s' => ∃ v, fin = .done (.ret v) ∧ Q v s') E s) : wpAny (model prog w) A (call (.builtin id) (.ref x :: rest)) Q E s := by
  refine wpAny_call (codeAny_call_builtin hp he ?_)
  have fin : wpAny (model prog w) A.in1 (b ⟨.ref x :: rest, []⟩) (fun fin s' => match fin with
      | .done f => (match (.ok f : Result) with | .ok (.ret v) => Q v s' | .ok _ => False | .error e => E e s')
      | .again c' => c'.quiet = true ∧ codeAny (model prog w) A c' (fun r s' => match r with | .ok (.ret v) => Q v s' | .ok _ => False | .error e => E e s') s') (fun e s' => E e s') s :=
    wpAny_mono h (fun fin s' ⟨v, e, q⟩ => by subst e; exact q) fun _ _ y => y
  rcases hk with h' | h' <;>
  · simp only [checkBuiltinCall, h', hs]
    refine wpAny_bind ((shelf_is_list X I).here ?_)
    simp only [Bool.not_true, Bool.false_eq_true, if_false]
    cases hsig : Manifest.signature? id with
    | none => exact wpAny_pure fin
    | some sig =>
      simp only [argsOk, hsig] at ha
      have h2 : Bind.checkArgs id sig ⟨.ref x :: rest, []⟩ = pure () := ha
      refine wpAny_of_eq h2 fin
theorem kind_append : builtinKind "list.append" = some .method := by decide +kernel
theorem split_append : splitId "list.append" = some ("list", "append") := by decide +kernel
theorem shelf_append {h₀ : Heap} {L : Addr} {m : Str → Option Value} {news news' : List (Addr × Obj)} {v : Value} {Q : Value → Shared → Prop} (F : Fr h₀ L s.heap m) (X₀ : (hd.heap_1 w.params).In h₀) (N : News h₀ L s.heap news)
    (h1 : (x, shelfObj dx items n) ∈ news) (h2 : (dx, od) ∈ news) (U : Upd x (shelfObj dx items n) (shelfObj dx (items.push v) (n + 1)) news news') (hz : items.size ≤ 1000)
    (h : ∀ h', Fr h₀ L h' m → News h₀ L h' news' → Q .none { s with heap := h' }) : wpAny (model prog w) A (call (.builtin "list.append") [.ref x, v]) Q E s := by
  have X := X₀.keeps F.keep
  have I := shelf_inst N h1 h2
  refine shelf_call X I PySem.F.slot_list_append.plain PySem.F.entry_list_append (.inr kind_append) split_append (PySem.F.args_list_append_2 _ _) ?_
  show wpAny _ _ (updateSeq x (·.push v) >>= fun _ => ret .none) _ _ s
  have e : Obj.mapSeq (·.push v) (shelfObj dx items n) = shelfObj dx (items.push v) (n + 1) := by simp [Obj.mapSeq]
  refine wpAny_bind (wpAny_updateSeq I.at_ rfl (wpAny_pure ⟨.none, rfl, ?_⟩) (by rw [sizeLine_eq]; omega) (by rw [sizeLine_eq, Array.size_push]; omega))
  obtain ⟨pre, post, rfl, rfl, a, b⟩ := U.split
  obtain ⟨F', N'⟩ := news_upd F N a b e rfl
  exact h _ F' N'
/-- a special method of `list` asked of a shelf -/
theorem shelf_special {id n' : String} {b : Builtin} {name : Str} {rest : List Value} {Q : Option Value → Shared → Prop} (X : (hd.heap_1 w.params).In s.heap) (I : InstAt s.heap x (shelfObj dx items n) 141 (some od))
    (hf : findIn (hd.heap_1 w.params) (.ref 141) name = some (some (.builtin id))) (hb : ∀ self, bindSpecial (.builtin id) self = pure (.builtin id, [self]))
    (hp : plainId id = true) (he : entryFor table id = some b) (hk : builtinKind id = some .slot ∨ builtinKind id = some .method) (hs : splitId id = some ("list", n')) (ha : argsOk id ⟨.ref x :: rest, []⟩)
    (h : wpAny (model prog w) A.in1 (b ⟨.ref x :: rest, []⟩) (fun fin s' => ∃ v, fin = .done (.ret v) ∧ Q (some v) s') E s) : wpAny (model prog w) A (callSpecial? (.ref x) name rest) Q E s := by
  unfold callSpecial? specialOf
  refine wpAny_bind (wpAny_bind (I.type.here ((looks_findIn X hf).here ?_)))
  refine wpAny_holding (wpAny_bind (wpAny_of_eq (hb _) ?_))
  exact wpAny_bind (wpAny_mono (shelf_call X I hp he hk hs ha h) (fun v s' q => wpAny_pure q) fun _ _ y => y)
theorem shelf_key {k : Value} {name : Str} {Q : Value → Shared → Prop} (X : (hd.heap_1 w.params).In s.heap) (I : InstAt s.heap x (shelfObj dx items n) 141 (some od)) (h : Q k s) :
    wpAny (model prog w) A (sequenceKey (.ref x) k name) Q E s := by
  unfold sequenceKey
  refine wpAny_bind (I.type.here ?_)
  have L : Looks (model prog w) s.heap (isSubtype (.ref 141) (.type "collections.deque")) false := looks_mroIn X (by k_is)
  show wpAny _ _ (seqItemTypes.anyM (fun n => isSubtype (.ref 141) (.type n)) >>= fun r => _) _ _ s
  refine wpAny_bind ?_
  show wpAny _ _ (List.anyM (fun n => isSubtype (.ref 141) (.type n)) ["collections.deque"]) _ _ s
  unfold List.anyM
  refine wpAny_bind (L.here ?_)
  show wpAny _ _ (List.anyM (fun n => isSubtype (.ref 141) (.type n)) []) _ _ s
  unfold List.anyM
  exact wpAny_pure (wpAny_pure h)
theorem kind_getitem : builtinKind "list.__getitem__" = some .slot ∨ builtinKind "list.__getitem__" = some .method := by decide +kernel
theorem split_getitem : splitId "list.__getitem__" = some ("list", "__getitem__") := by decide +kernel
theorem kind_setitem : builtinKind "list.__setitem__" = some .slot ∨ builtinKind "list.__setitem__" = some .method := by decide +kernel
theorem split_setitem : splitId "list.__setitem__" = some ("list", "__setitem__") := by decide +kernel
theorem shelf_getItem {k : Int} {t : Tok} {v : Value} {Q : Value → Shared → Prop} (X : (hd.heap_1 w.params).In s.heap) (I : InstAt s.heap x (shelfObj dx items n) 141 (some od)) (h0 : 0 ≤ k) (hfit : k < 2 ^ 63) (hx : items[k.toNat]? = some v) (h : Q v s) :
    wpAny (model prog w) A (getItem (.ref x) (.int k t)) Q E s := by
  unfold getItem
  refine wpAny_holding (wpAny_bind (shelf_key X I (wpAny_bind ?_)))
  refine shelf_special X I (by k_is) slot_list_getitem.bind slot_list_getitem.plain entry_list_getitem kind_getitem split_getitem (args_list_getitem _ _) ?_
  show wpAny _ _ (Builtin.List.listSubscript? (.int k t) >>= _) _ _ s
  refine wpAny_bind (wpAny_listSubscript_int (fitsIndex_of h0 hfit) ?_)
  clear hfit
  obtain ⟨j, rfl⟩ := Int.eq_ofNat_of_zero_le h0
  have hx' : items[j]? = some v := hx
  show wpAny _ _ ((seqItemAt x j >>= fun r => pure (r.map (j, ·))) >>= _) _ _ s
  refine wpAny_bind (wpAny_bind (wpAny_seqItemAt I.at_ rfl (wpAny_pure ?_)))
  rw [hx']
  first
    | exact wpAny_bind (wpAny_pure (wpAny_pure ⟨v, rfl, wpAny_pure h⟩))
    | exact wpAny_pure ⟨v, rfl, wpAny_pure h⟩
theorem shelf_getSlice {sl : Addr} {vl vu vs : Value} {lo hi st : Option Int} {Q : Value → Shared → Prop} (X : (hd.heap_1 w.params).In s.heap) (I : InstAt s.heap x (shelfObj dx items n) 141 (some od))
    (hs : s.heap.IsSliceOf sl vl vu vs) (pl : IsPart vl lo) (pu : IsPart vu hi) (ps : IsPart vs st) (h0 : st ≠ some 0)
    (h : Q (.ref s.heap.objs.size) { s with heap := s.heap.push { cls := .type "list", data := .seq (slicePick items lo hi st) } })
    (hsz : items.size ≤ sizeLine) : wpAny (model prog w) A (getItem (.ref x) (.ref sl)) Q E s := by
  obtain ⟨os, hos, hcs, hds⟩ := id hs
  have hTs : s.TypeIs (.ref sl) "slice" := ⟨os, hos, hcs⟩
  unfold getItem
  refine wpAny_holding (wpAny_bind (shelf_key X I (wpAny_bind ?_)))
  refine shelf_special X I (by k_is) slot_list_getitem.bind slot_list_getitem.plain entry_list_getitem kind_getitem split_getitem (args_list_getitem _ _) ?_
  show wpAny _ _ (Builtin.List.listSubscript? (.ref sl) >>= _) _ _ s
  refine wpAny_bind ?_
  unfold Builtin.List.listSubscript?
  refine wpAny_bind (wpAny_specialOf hTs slice_no_index ?_)
  simp only [Option.isNone_none, if_true]
  refine wpAny_pure ?_
  show wpAny _ _ (typeOf (.ref sl) >>= _) _ _ s
  refine wpAny_bind (wpAny_typeOf hTs ?_)
  rw [if_neg (by decide)]
  rw [listSliceParts_eq]
  have hstep : ¬ ((rawPart st == rawInt 0) = true) := by
    cases st with
    | none => exact Bool.false_ne_true
    | some c =>
      intro hh
      have : c = 0 := by simpa [rawPart, rawInt] using hh
      exact h0 (by rw [this])
  refine wpAny_bind (wpAny_bind (wpAny_field hos hds (x := vs) rfl (wpAny_bind (wpAny_listPart ps ?_))))
  rw [if_neg hstep]
  refine wpAny_bind (wpAny_field hos hds (x := vl) rfl (wpAny_bind (wpAny_listPart pl ?_)))
  refine wpAny_bind (wpAny_field hos hds (x := vu) rfl (wpAny_bind (wpAny_listPart pu (wpAny_pure ?_))))
  refine wpAny_bind (m := Builtin.List.listItems (.ref x)) ?_
  unfold Builtin.List.listItems
  refine wpAny_bind (wpAny_seqItems I.at_ rfl (wpAny_pure ?_))
  refine wpAny_bind (wpAny_of_eq (sliceIndices_raw lo hi st items.size h0) ?_)
  exact wpAny_bind (wpAny_newObj_type (wpAny_pure ⟨_, rfl, wpAny_pure h⟩) (Nat.le_trans (slicePick_size_le items lo hi st) hsz))
theorem shelf_tail {value slice : Expr} {i : Value} {ops : List Value} {Q : Value → Shared → Prop} (X : (hd.heap_1 w.params).In s.heap) (I : InstAt s.heap x (shelfObj dx items n) 141 (some od)) (hg : wpAny (model prog w) A (getItem (.ref x) i) Q E s)
    (hs : subscripted slice false (.ref x) i = operate ops (getItem (.ref x) i)) : wpAny (model prog w) A (subscriptTail value slice (.ref x) i) Q E s := by
  unfold subscriptTail getitemInPython specialOf
  refine wpAny_bind (wpAny_bind (wpAny_bind (I.type.here ((looks_findIn X (r := some (.builtin "list.__getitem__")) (by k_is)).here ?_))))
  refine wpAny_pure (wpAny_bind ?_)
  rw [hs]
  exact wpAny_operating (wpAny_mono hg (fun r s₃ h₃ => wpAny_bind (wpAny_letTemporaryGo (wpAny_pure h₃))) fun _ _ x => x)
theorem shelf_mapSeq {f : Array Value → Array Value} {ys : Array Value} (e : f items = ys) : ∃ n', Obj.mapSeq f (shelfObj dx items n) = shelfObj dx ys n' := by
  subst e
  exact ⟨_, rfl⟩
theorem shelf_setSlice {h₀ : Heap} {L : Addr} {m : Str → Option Value} {news : List (Addr × Obj)} {nw : Nat → List (Addr × Obj)} {sl v : Addr} {vl vu vs : Value} {lo : Nat} {Q : Unit → Shared → Prop} (F : Fr h₀ L s.heap m) (X₀ : (hd.heap_1 w.params).In h₀) (N : News h₀ L s.heap news)
    (hm1 : (x, shelfObj dx items n) ∈ news) (hm2 : (dx, od) ∈ news)
    (hs : s.heap.IsSliceOf sl vl vu vs) (pl : IsPart vl (some (lo : Int))) (pu : IsPart vu none) (ps : IsPart vs none) (hv : s.heap.IsList v #[]) (hne : x ≠ v) (hlo : lo ≤ items.size)
    (U : ∀ n', Upd x (shelfObj dx items n) (shelfObj dx (items.extract 0 lo) n') news (nw n'))
    (h : ∀ n' h', Fr h₀ L h' m → News h₀ L h' (nw n') → Q () { s with heap := h' })
    (hsz : items.size ≤ 1000) : wpAny (model prog w) A (setItem (.ref x) (.ref sl) (.ref v)) Q E s := by
  have X := X₀.keeps F.keep
  have I := shelf_inst N hm1 hm2
  obtain ⟨os, hos, hcs, hds⟩ := id hs
  obtain ⟨ov, hov, hcv, nv, hdv⟩ := id hv
  have hTs : s.TypeIs (.ref sl) "slice" := ⟨os, hos, hcs⟩
  unfold setItem
  refine wpAny_holding (wpAny_bind (shelf_key X I (wpAny_bind ?_)))
  refine shelf_special X I (by k_is) slot_list_setitem.bind slot_list_setitem.plain entry_list_setitem kind_setitem split_setitem (args_list_setitem _ _ _) ?_
  show wpAny _ _ (Builtin.List.listSubscript? (.ref sl) >>= _) _ _ s
  refine wpAny_bind ?_
  unfold Builtin.List.listSubscript?
  refine wpAny_bind (wpAny_specialOf hTs slice_no_index ?_)
  simp only [Option.isNone_none, if_true]
  refine wpAny_pure ?_
  show wpAny _ _ (typeOf (.ref sl) >>= _) _ _ s
  refine wpAny_bind (wpAny_typeOf hTs ?_)
  rw [if_neg (by decide)]
  rw [listSliceParts_eq]
  refine wpAny_bind (wpAny_bind (wpAny_field hos hds (x := vs) rfl (wpAny_bind (wpAny_listPart ps ?_))))
  rw [if_neg (by exact Bool.false_ne_true)]
  refine wpAny_bind (wpAny_field hos hds (x := vl) rfl (wpAny_bind (wpAny_listPart pl ?_)))
  refine wpAny_bind (wpAny_field hos hds (x := vu) rfl (wpAny_bind (wpAny_listPart pu (wpAny_pure ?_))))
  have hsame : Builtin.List.listSameRef (.ref x) (.ref v) = false := beq_eq_false_iff_ne.mpr hne
  simp only [hsame, Bool.false_eq_true, if_false]
  have hb : sliceBounds (some (lo : Int)) none none items.size = ((lo : Int), (items.size : Int), 1) := by
    have h1 : ¬ ((lo : Int) < 0) := by omega
    simp only [sliceBounds, Option.getD_none, h1, if_false, show (1 : Int) > 0 by decide, if_true]
    congr 1
    omega
  have hT : s.TypeIs (.ref v) "list" := ⟨ov, hov, hcv⟩
  unfold Builtin.List.listAllItems
  refine wpAny_bind (wpAny_bind (wpAny_typeOf hT ?_))
  rw [if_pos (by decide)]
  unfold Builtin.List.listItems
  refine wpAny_bind (wpAny_seqItems hov hdv (wpAny_pure ?_))
  refine wpAny_bind (wpAny_bind (wpAny_seqItems I.at_ rfl (wpAny_pure ?_)))
  refine wpAny_bind (wpAny_of_eq (sliceIndices_raw (some (lo : Int)) none none items.size (by simp)) ?_)
  rw [hb]
  dsimp only
  rw [if_pos (by decide)]
  refine wpAny_bind (wpAny_rule ?_)
  rw [if_neg (by simp [Builtin.List.listTooLong, sizeLine_eq]; omega)]
  have ef : (fun xs : Array Value => xs.extract 0 ((lo : Int).toNat) ++ #[] ++ xs.extract (max (lo : Int) (items.size : Int)).toNat) items = items.extract 0 lo := by
    have e1 : (max (lo : Int) (items.size : Int)).toNat = items.size := by omega
    simp [e1]
  refine wpAny_bind (m := Builtin.List.listUpdate (.ref x) _) ?_
  unfold Builtin.List.listUpdate
  refine wpAny_updateSeq I.at_ rfl (wpAny_bind (wpAny_letGo (wpAny_pure ⟨_, rfl, wpAny_pure ?_⟩))) (by rw [sizeLine_eq]; omega) (by
    rw [show items.extract 0 ((lo : Int).toNat) ++ #[] ++ items.extract (max (lo : Int) (items.size : Int)).toNat = items.extract 0 lo from ef, sizeLine_eq]
    simp only [Array.size_extract]; omega)
  obtain ⟨n', e2⟩ := shelf_mapSeq (dx := dx) (n := n) (items := items) (f := fun xs : Array Value => xs.extract 0 ((lo : Int).toNat) ++ #[] ++ xs.extract (max (lo : Int) (items.size : Int)).toNat) ef
  obtain ⟨pre, post, hn, hn', a, b⟩ := (U n').split
  rw [hn] at N
  obtain ⟨F', N'⟩ := news_upd (f := Obj.mapSeq (fun xs : Array Value => xs.extract 0 ((lo : Int).toNat) ++ #[] ++ xs.extract (max (lo : Int) (items.size : Int)).toNat)) (o' := shelfObj dx (items.extract 0 lo) n') F N a b e2 rfl
  rw [← hn'] at N'
  exact h n' _ F' N'
end
end Mine
end

section
open PySem PySem.W PySem.W.X PyProof.Rows
set_option maxRecDepth 100000
namespace Mine
theorem fillK5 : PySem.Challenge.rw_xp0017_01 = PySem.Challenge.rw_xp0017_01 ∧ hd.heap_1 = hd.heap_1 := by
  w_top off
  k_fill
  exact ⟨rfl, rfl⟩
theorem wpAny_depth_le {α : Type} {M : Model} {A : Around} {E : Value → Shared → Prop} {s : Shared} {t : Sem α} {Q : α → Shared → Prop} {d : Nat} (h : wpAny M A t Q E s) (hd : d ≤ A.depth) : wpAny M { A with depth := d } t Q E s :=
  fun Γ p hΓ => h Γ p ⟨hΓ.1, Nat.le_trans hΓ.2.1 hd, hΓ.2.2.1, hΓ.2.2.2.1, hΓ.2.2.2.2⟩
theorem wpAny_at_most {α : Type} {M : Model} {hd : Option Value} {fs : Option (List Env)} {gd : Option (List Code)} {E : Value → Shared → Prop} {s : Shared} {t : Sem α} {Q : α → Shared → Prop} {dp dp' un un' : Nat}
    (h : wpAny M { handled := hd, depth := dp', frames := fs, guards := gd, units := un' } t Q E s) (h1 : dp ≤ dp') (h2 : un ≤ un') : wpAny M { handled := hd, depth := dp, frames := fs, guards := gd, units := un } t Q E s :=
  fun Γ p hΓ => h Γ p ⟨hΓ.1, Nat.le_trans hΓ.2.1 h1, hΓ.2.2.1, hΓ.2.2.2.1, Nat.le_trans hΓ.2.2.2.2 h2⟩
set_option hygiene false in
local macro_rules | `(tactic| x_close) => `(tactic| (exact hq _ _ _ _ (by assumption)))
set_option maxHeartbeats 0 in
theorem list_new0 (w : World) (s : Shared) (X : (hd.heap_1 w.params).In s.heap) (fs : List Env) (gd : Option (List Code)) (Q E : Value → Shared → Prop)
    (hq : ∀ x dx h' tk, Mem s.heap h' [] [(x, shelfObj dx #[] 0), (dx, { cls := .type "dict", data := .dict #[] })] → Q (.ref x) ⟨h', s.gens, s.drawn, tk, s.os⟩) :
    wpAny (model prog w) { handled := none, depth := 600, frames := some fs, guards := gd, units := 600 } (call (.builtin "list.__new__") [.ref 141]) Q E s := by
  x_run
section
variable {w : World} {A : Around} {E : Value → Shared → Prop} {s : Shared} {x dx : Addr} {items : Array Value} {n : Nat} {od : Obj}
theorem peek_made (P : Params) : peek (hd.heap_1 P) ⟨prog, P⟩ (Bind.madeBy (.ref 141)) = some (some "list.__new__") := by kernel_rfl
theorem news_of_mem {h₀ h h' : Heap} {L : Addr} {m : Str → Option Value} {news new : List (Addr × Obj)} (F : Fr h₀ L h m) (N : News h₀ L h news) (M : Mem h h' [] new) : Fr h₀ L h' m ∧ News h₀ L h' (new ++ news) := by
  have k : ∀ b o, h.get? b = some o → h'.get? b = some o := fun b o e => M.keep b o e (by simp [away])
  refine ⟨F.keeps k, fun p hp => ?_⟩
  rcases List.mem_append.mp hp with q | q
  · have z := M.nw p q
    refine ⟨z.1, fun e => ?_, ?_⟩
    · obtain ⟨oL, es, ep, hL, _⟩ := F.ns
      rw [e, hL] at z; cases z.2
    · cases c : h₀.get? p.1 with
      | none => rfl
      | some o => rw [F.keep _ _ c] at z; cases z.2
  · exact ⟨k _ _ (N p q).1, (N p q).2⟩
theorem acc_make {dp un : Nat} {gd : Option (List Code)} {fs : List Env} {h₀ : Heap} {L : Addr} {m : Str → Option Value} {news : List (Addr × Obj)} {Q : Value → Shared → Prop} (F : Fr h₀ L s.heap m) (X₀ : (hd.heap_1 w.params).In h₀) (N : News h₀ L s.heap news)
    (hdp : dp ≤ 500) (hun : un ≤ 500)
    (hq : ∀ x dx h' tk, Fr h₀ L h' m → News h₀ L h' ((x, shelfObj dx #[] 0) :: (dx, emptyDict) :: news) → OwnOff news [x, dx] → @LT.lt Nat _ dx x →
      codeAny (model prog w) (Around.under { handled := none, depth := dp, frames := some fs, guards := gd, units := un } (.builtin "type.__call__" ⟨[.ref 141], []⟩)) (.call (.ref 79) ⟨[.ref x], []⟩)
        (InitBack x fun r s' => match r with | .ok (.ret v) => Q v s' | .ok _ => False | .error e => E e s') { s with heap := h', toks := tk }) :
    wpAny (model prog w) { handled := none, depth := dp, frames := some fs, guards := gd, units := un } (call (.ref 141) []) Q E s := by
  have X := X₀.keeps F.keep
  obtain ⟨o141, hC, hcd⟩ : ∃ o, s.heap.get? 141 = some o ∧ ∃ oc od cd sl, o = ⟨oc, od, .cls cd, sl⟩ := ⟨_, X _ _ (by k_is), _, _, _, _, rfl⟩
  obtain ⟨oc, od, cd, sl, rfl⟩ := hcd
  have hcl : (clsIn (hd.heap_1 w.params) 141).any (fun cd => !cd.mro.isEmpty) = true := by kernel_rfl
  have Lc : Looks (model prog w) s.heap (specialOf (.ref 141) "__call__") (some (.builtin "type.__call__")) := looks_specialIn X (by k_is)
  have Lt : Looks (model prog w) s.heap (isInstance (.ref 141) (.type "type")) true := looks_instIn X (by k_is)
  have Lm := Looks.of_peek (M := model prog w) X (peek_made w.params)
  obtain ⟨l, hl, Lr⟩ : ∃ l : List Value, l.isEmpty = false ∧ Looks (model prog w) s.heap (mroOf (.ref 141)) l := ⟨[.ref 141, .type "list", .type "object"], rfl, Looks.of_peek X (by kernel_rfl)⟩
  refine wpAny_call (codeAny_of_tree ?_)
  show wpAny _ _ (callAny (.ref 141) _) _ _ _
  refine nd_load hC ?_
  show wpAny _ _ (callAny.viaDunder (.ref 141) _) _ _ _
  unfold callAny.viaDunder
  refine wpAny_bind (Lc.here ?_)
  dsimp only
  rw [tc_bind]
  refine wpAny_bind (wpAny_pure (wpAny_bind (wpAny_pure ?_)))
  refine wpAny_pure (a := Fin.again (.call (.builtin "type.__call__") ⟨[.ref 141], []⟩)) (And.intro rfl ?_)
  refine codeAny_call_builtin_at (Code.quiet_builtin _ (by decide +kernel)) entry_typeCall (check_slot tc_kind tc_split Lt (tc_args _ _ _) ?_)
  unfold Builtin.«type.__call__»
  dsimp only
  rw [if_neg (by decide)]
  refine wpAny_bind (Lr.here ?_)
  rw [hl]
  simp only [Bool.false_eq_true, if_false]
  refine wpAny_bind (Lm.here ?_)
  dsimp only
  refine wpAny_bind (wpAny_pure (wpAny_bind (wpAny_holding ?_)))
  have e : (Around.under { handled := none, depth := dp, frames := some fs, guards := gd, units := un } (.builtin "type.__call__" ⟨[.ref 141], []⟩)) = { handled := none, depth := dp + 1, frames := some fs, guards := gd, units := un + (Code.builtin "type.__call__" ⟨[.ref 141], []⟩).cUnits } := by rfl
  rw [e]
  refine wpAny_at_most (list_new0 w s X fs gd _ _ ?_) (by omega) ?_
  · intro x dx h' tk D
    obtain ⟨F', N'⟩ := news_of_mem F N D
    have X' := X₀.keeps F'.keep
    have I := shelf_inst N' (.head _) (.tail _ (.head _))
    have Li : Looks (model prog w) h' (isInstance (.ref x) (.ref 141)) true := I.type.andThen (looks_mroIn X' (by k_is))
    refine wpAny_bind (Li.at ?_)
    simp only [Bool.not_true, Bool.false_eq_true, if_false]
    have hoff : OwnOff news [x, dx] := by
      intro p hp b hb e
      have z := N p hp
      rcases List.mem_cons.mp hb with q | q
      · have y := D.nw _ (List.Mem.head _)
        rw [← q, ← e, z.1] at y
        cases y.2
      · have y := D.nw _ (List.Mem.tail _ (List.Mem.head _))
        rw [← List.mem_singleton.mp q, ← e, z.1] at y
        cases y.2
    have hlt : @LT.lt Nat _ dx x := by
      have := D.ord
      simpa using this
    have hh := hq x dx h' tk F' N' hoff hlt
    rw [e] at hh
    refine wpAny_bind (wpAny_holding (special_fn X' I (name := "__init__") (f := 79) (by k_is) (by k_is) (wpAny_call (codeAny_mono hh fun r s' z => ?_))))
    rcases r with er | (v | _ | _ | _) <;> first | exact z | exact z.elim | skip
    obtain ⟨rfl, z⟩ := z
    exact wpAny_pure z
  · have : (Code.builtin "type.__call__" ⟨[.ref 141], []⟩).cUnits ≤ 50 := by decide
    omega
end
end Mine
end

section
open PySem PySem.W PySem.W.X PyProof.Rows
set_option maxRecDepth 100000
namespace Mine
theorem fillK7 : PySem.Challenge.rw_xp0017_01 = PySem.Challenge.rw_xp0017_01 ∧ hd.heap_1 = hd.heap_1 := by
  w_top off
  k_fill
  exact ⟨rfl, rfl⟩
theorem type_llen : typeOf (.builtin "list.__len__") = pure (.type "wrapper_descriptor") := by show builtinType _ = _; rw [builtinType_eq_fast]; kernel_rfl
theorem type_linit : typeOf (.builtin "list.__init__") = pure (.type "wrapper_descriptor") := by show builtinType _ = _; rw [builtinType_eq_fast]; kernel_rfl
theorem wd_get : typeLookup (.type "wrapper_descriptor") "__get__" = pure (some (.builtin "wrapper_descriptor.__get__")) := by rw [typeLookup_type, builtinLookup_eq_fast]; kernel_rfl
set_option hygiene false in
local macro_rules | `(tactic| x_close) => `(tactic| (exact hq _ _ _ (by assumption)))
set_option maxHeartbeats 0 in
theorem get_len0 (w : World) (s : Shared) (X : (hd.heap_1 w.params).In s.heap) (fs : List Env) (gd : Option (List Code)) (x dx : Addr) (items : Array Value) (n : Nat)
    (h2 : s.heap.get? x = some { cls := .ref 141, dict := some dx, data := .seq items n, slots := #[] }) (Q E : Value → Shared → Prop)
    (hq : ∀ q h' tk, Mem s.heap h' [] [(q, { cls := .type "method-wrapper", data := .fields #[.builtin "list.__len__", .ref x] })] → Q (.ref q) ⟨h', s.gens, s.drawn, tk, s.os⟩) :
    wpAny (model prog w) { handled := none, depth := 600, frames := some fs, guards := gd, units := 700 } (call (.builtin "wrapper_descriptor.__get__") [.builtin "list.__len__", .ref x, .ref 141]) Q E s := by
  x_run
set_option maxHeartbeats 0 in
theorem get_init0 (w : World) (s : Shared) (X : (hd.heap_1 w.params).In s.heap) (fs : List Env) (gd : Option (List Code)) (x dx : Addr) (items : Array Value) (n : Nat)
    (h2 : s.heap.get? x = some { cls := .ref 141, dict := some dx, data := .seq items n, slots := #[] }) (Q E : Value → Shared → Prop)
    (hq : ∀ q h' tk, Mem s.heap h' [] [(q, { cls := .type "method-wrapper", data := .fields #[.builtin "list.__init__", .ref x] })] → Q (.ref q) ⟨h', s.gens, s.drawn, tk, s.os⟩) :
    wpAny (model prog w) { handled := none, depth := 600, frames := some fs, guards := gd, units := 700 } (call (.builtin "wrapper_descriptor.__get__") [.builtin "list.__init__", .ref x, .ref 141]) Q E s := by
  x_run
theorem super_ga {w : World} {A : Around} {E : Value → Shared → Prop} {h : Heap} {g : Array GenState} {d : Drawn} {t : Nat} {os : OsState} {so x dx : Addr} {items : Array Value} {n : Nat} {name : Str} {id : String} {tk : Tok} {Q : Fin → Shared → Prop}
    (X : (hd.heap_1 w.params).In h)
    (hso : h.get? so = some { cls := .type "super", dict := none, data := .fields #[.ref 141, .ref x, .ref 141], slots := #[] })
    (h2 : h.get? x = some (shelfObj dx items n))
    (hf : alongIn (hd.heap_1 w.params) name [.type "list", .type "object"] = some (some (.builtin id))) (ht : typeOf (.builtin id) = pure (.type "wrapper_descriptor")) (hn : (name == ("__class__" : Str)) = false)
    (hq : wpAny (model prog w) A (call (.builtin "wrapper_descriptor.__get__") [.builtin id, .ref x, .ref 141]) (fun v s' => Q (.done (.ret v)) s') E ⟨h, g, d, t, os⟩) :
    wpAny (model prog w) A (Builtin.«super.__getattribute__» ⟨[.ref so, .str name tk], []⟩) Q E ⟨h, g, d, t, os⟩ := by
  have hxC : x ≠ 141 := by
    rintro rfl
    have := X 141 _ (by k_is)
    rw [h2] at this
    cases this
  have hne : (Value.ref x == Value.ref 141) = false := by simp [hxC]
  have hno : Looks (model prog w) h (opaqueClassAbove (.ref 141)) none := looks_opaque X (by k_is)
  have hC : Looks (model prog w) h (mroOf (.ref 141)) [.ref 141, .type "list", .type "object"] := Looks.of_peek X (by kernel_rfl)
  have hl : ([Value.ref 141, Value.type "list", Value.type "object"].dropWhile (· != .ref 141)).drop 1 = [Value.type "list", Value.type "object"] := by decide
  have hdt : ({ cls := .type "super", dict := none, data := .fields #[.ref 141, .ref x, .ref 141], slots := #[] } : Obj).data = .fields #[.ref 141, .ref x, .ref 141] := rfl
  have f0 : (#[.ref 141, .ref x, .ref 141] : Array Value)[0]? = some (.ref 141) := rfl
  have f1 : (#[.ref 141, .ref x, .ref 141] : Array Value)[1]? = some (.ref x) := rfl
  have f2 : (#[.ref 141, .ref x, .ref 141] : Array Value)[2]? = some (.ref 141) := rfl
  unfold Builtin.«super.__getattribute__»
  repeat (first
    | (with_reducible refine wpAny_field hso hdt f0 ?_) | (with_reducible refine wpAny_field hso hdt f1 ?_) | (with_reducible refine wpAny_field hso hdt f2 ?_)
    | (with_reducible refine ks_wpAny_notOpaque hno ?_)
    | (with_reducible refine Looks.at hC ?_; rw [hl])
    | (refine ks_forIn_along X (fun _ _ => rfl) rfl ?_ hf)
    | (with_reducible refine wpAny_of_eq ht ?_)
    | (with_reducible refine wpAny_of_eq wd_get ?_)
    | (with_reducible refine wpAny_mono hq (fun v s' h' => ?_) (fun _ _ y => y))
    | (with_reducible refine ⟨_, rfl, ?_⟩)
    | (simp only [hn, hne, Bool.or_false, Bool.false_eq_true, if_false])
    | wp_step
    | dsimp only)
  all_goals exact h'
abbrev wrapObj (id : String) (x : Addr) : Obj := { cls := .type "method-wrapper", data := .fields #[.builtin id, .ref x] }
section
variable {w : World} {E : Value → Shared → Prop} {s : Shared} {x dx so q : Addr} {items : Array Value} {n : Nat} {od : Obj} {h₀ : Heap} {L : Addr} {m : Str → Option Value} {news : List (Addr × Obj)}
theorem super_method {A : Around} {name : Str} {id : String} {pl : Sem Bool} {Q : Value × List Value → Shared → Prop} (X : (hd.heap_1 w.params).In s.heap)
    (hso : s.heap.get? so = some { cls := .type "super", dict := none, data := .fields #[.ref 141, .ref x, .ref 141], slots := #[] }) (h2 : s.heap.get? x = some (shelfObj dx items n))
    (hf : alongIn (hd.heap_1 w.params) name [.type "list", .type "object"] = some (some (.builtin id))) (ht : typeOf (.builtin id) = pure (.type "wrapper_descriptor")) (hn : (name == ("__class__" : Str)) = false)
    (hq : wpAny (model prog w) A.in1 (call (.builtin "wrapper_descriptor.__get__") [.builtin id, .ref x, .ref 141]) (fun v s' => ∃ q, v = .ref q ∧ Q (.ref q, []) s') (fun _ _ => False) { s with toks := s.toks + 1 }) :
    wpAny (model prog w) A (getMethod (.ref so) name pl) Q E s := by
  obtain ⟨h, g, d, t, os⟩ := s
  have hlk := F.ks_slot_super_ga.lookup
  have hcan := F.ks_canon_super_ga
  have hT : ∀ t', (⟨h, g, d, t', os⟩ : Shared).TypeIs (.ref so) "super" := fun _ => ⟨_, hso, rfl⟩
  unfold getMethod
  refine wpAny_bind (wpAny_specialOf (hT _) hlk ?_)
  show wpAny _ _ (if (Manifest.canonical "super.__getattribute__" != "object.__getattribute__") = true then _ else _) _ _ _
  rw [if_pos hcan]
  unfold getAttr getAttrBy
  refine wpAny_bind (wpAny_bind (wpAny_mkText (wpAny_holding (wpAny_bind (wpAny_typeOf (hT _) (wpAny_bind (wpAny_of_eq hlk ?_)))))))
  show wpAny _ _ (getAttrByItsOwn (.ref so) (.str name t) (.type "super") (.builtin "super.__getattribute__") true false) _ _ _
  unfold getAttrByItsOwn hookBefore callGetattribute boundAndCalled
  refine wpAny_bind (wpAny_of_eq (show (if onTheHeap (.type "super") then typeLookup (.type "super") "__getattr__" else pure none) = pure none from rfl) ?_)
  refine wpAny_bind (wpAny_attempt (wpAny_holding ?_))
  show wpAny _ _ (bindSpecial (.builtin "super.__getattribute__") (.ref so) >>= _) _ _ _
  refine wpAny_bind (wpAny_of_eq (F.ks_slot_super_ga.bind _) ?_)
  refine wpAny_mono (Q := fun v s' => ∃ q, v = .ref q ∧ Q (.ref q, []) s') (E := fun _ _ => False)
    (wpAny_call_entry F.ks_slot_super_ga (hT _) F.ks_entry_super_ga (super_ga X hso h2 hf ht hn (wpAny_mono hq (fun v s' h' => ⟨v, rfl, h'⟩) fun _ _ y => y)) (F.ks_gaArgs_super _ _)) (fun v s' hv => ?_) fun _ _ z => z.elim
  obtain ⟨q, rfl, hv⟩ := hv
  exact wpAny_pure (wpAny_pure hv)
theorem wrap_callWith {A : Around} {id : String} {env : Env} {pos : Pos} {Q : Value → Shared → Prop} (hq : s.heap.get? q = some (wrapObj id x)) (h : wpAny (model prog w) A (call (.ref q) []) Q E s) :
    wpAny (model prog w) A (callWith pos (.ref q) [] (backTo pos (starEach [] env)) []) Q E s := by
  refine callWith_of (P := fun h => h.get? q = some (wrapObj id x)) rfl (fun h e => ⟨.machine, .inr (.inl rfl), ?_⟩) (evalArgs_nil3 ⟨hq, h⟩)
  refine (Looks.ld (part := none) e).andThen ?_
  exact Looks.of_pure rfl
theorem wrap_call {A : Around} {id : String} {b : Builtin} {Q : Value → Shared → Prop} (hq : s.heap.get? q = some (wrapObj id x)) (hc : checkBoundCall id ⟨[.ref x], []⟩ = pure ()) (hi : (Code.builtin id ⟨[.ref x], []⟩).quiet = true) (he : entryFor table id = some b)
    (h : ∀ A', wpAny (model prog w) A' (b ⟨[.ref x], []⟩) (fun fin s' => ∃ v, fin = .done (.ret v) ∧ Q v s') E s) : wpAny (model prog w) A (call (.ref q) []) Q E s := by
  refine wpAny_call (codeAny_of_tree ?_)
  show wpAny _ _ (callAny (.ref q) ⟨[], []⟩) _ _ s
  simp only [callAny]
  refine wpAny_bind (wpAny_load hq ?_)
  dsimp only
  rw [if_pos (by decide)]
  show wpAny _ _ (checkBoundCall id ⟨[.ref x], []⟩ >>= fun _ => again (Code.builtin id ⟨[.ref x], []⟩)) _ _ s
  refine wpAny_bind (wpAny_of_eq (a := ()) hc ?_)
  refine wpAny_pure ⟨hi, codeAny_builtin he (wpAny_mono (h _) (fun fin s' ⟨v, e, q⟩ => ?_) fun _ _ y => y)⟩
  subst e
  exact q
theorem check_llen (x : Addr) : checkBoundCall "list.__len__" ⟨[.ref x], []⟩ = pure () := by first | kernel_rfl | rfl
theorem check_linit (x : Addr) : checkBoundCall "list.__init__" ⟨[.ref x], []⟩ = pure () := by first | kernel_rfl | rfl
theorem quiet_llen (x : Addr) : (Code.builtin "list.__len__" ⟨[.ref x], []⟩).quiet = true := Code.quiet_builtin _ (by decide +kernel)
theorem quiet_linit (x : Addr) : (Code.builtin "list.__init__" ⟨[.ref x], []⟩).quiet = true := Code.quiet_builtin _ (by decide +kernel)
theorem entry_llen : entryFor table "list.__len__" = some Builtin.«list.__len__» := entryFor_of_tree (by kernel_rfl)
theorem entry_linit : entryFor table "list.__init__" = some Builtin.«list.__init__» := entryFor_of_tree (by kernel_rfl)
theorem along_len (P : Params) : alongIn (hd.heap_1 P) "__len__" [.type "list", .type "object"] = some (some (.builtin "list.__len__")) := by kernel_rfl
theorem along_init (P : Params) : alongIn (hd.heap_1 P) "__init__" [.type "list", .type "object"] = some (some (.builtin "list.__init__")) := by kernel_rfl
theorem wrap_len {A : Around} {Q : Value → Shared → Prop} (hq : s.heap.get? q = some (wrapObj "list.__len__" x)) (h2 : s.heap.get? x = some (shelfObj dx items n)) (h : Q (.int items.size s.toks) { s with toks := s.toks + 1 }) :
    wpAny (model prog w) A (call (.ref q) []) Q E s := by
  refine wrap_call hq (check_llen x) (quiet_llen x) entry_llen fun A' => ?_
  show wpAny _ _ (seqSize x >>= fun k => retInt k) _ _ s
  unfold seqSize
  refine wpAny_bind (wpAny_bind (wpAny_loadPart h2 (wpAny_pure ?_)))
  exact wpAny_bind (wpAny_mkInt (wpAny_pure ⟨_, rfl, h⟩))
theorem super_len {dp un : Nat} {gd : Option (List Code)} {fs : List Env} {pl : Sem Bool} {Q : Value × List Value → Shared → Prop} (F : Fr h₀ L s.heap m) (X₀ : (hd.heap_1 w.params).In h₀) (N : News h₀ L s.heap news)
    (hso : (so, ks_superObj 141 x 141) ∈ news) (h2 : (x, shelfObj dx items n) ∈ news) (hdp : dp ≤ 600) (hun : un ≤ 600)
    (h : ∀ q h' tk, Fr h₀ L h' m → News h₀ L h' ((q, wrapObj "list.__len__" x) :: news) → Q (.ref q, []) { s with heap := h', toks := tk }) :
    wpAny (model prog w) { handled := none, depth := dp, frames := some fs, guards := gd, units := un } (getMethod (.ref so) "__len__" pl) Q E s := by
  have X := X₀.keeps F.keep
  refine super_method X (N _ hso).1 (N _ h2).1 (along_len w.params) type_llen (by decide) ?_
  refine wpAny_at_most (get_len0 w { s with toks := s.toks + 1 } X fs gd x dx items n (N _ h2).1 _ _ fun q h' tk M => ?_) hdp (show un + 1 ≤ 700 by omega)
  obtain ⟨F', N'⟩ := news_of_mem F N M
  exact ⟨q, rfl, h q h' tk F' N'⟩
theorem super_init {dp un : Nat} {gd : Option (List Code)} {fs : List Env} {pl : Sem Bool} {Q : Value × List Value → Shared → Prop} (F : Fr h₀ L s.heap m) (X₀ : (hd.heap_1 w.params).In h₀) (N : News h₀ L s.heap news)
    (hso : (so, ks_superObj 141 x 141) ∈ news) (h2 : (x, shelfObj dx items n) ∈ news) (hdp : dp ≤ 600) (hun : un ≤ 600)
    (h : ∀ q h' tk, Fr h₀ L h' m → News h₀ L h' ((q, wrapObj "list.__init__" x) :: news) → q ≠ x → Q (.ref q, []) { s with heap := h', toks := tk }) :
    wpAny (model prog w) { handled := none, depth := dp, frames := some fs, guards := gd, units := un } (getMethod (.ref so) "__init__" pl) Q E s := by
  have X := X₀.keeps F.keep
  refine super_method X (N _ hso).1 (N _ h2).1 (along_init w.params) type_linit (by decide) ?_
  refine wpAny_at_most (get_init0 w { s with toks := s.toks + 1 } X fs gd x dx items n (N _ h2).1 _ _ fun q h' tk M => ?_) hdp (show un + 1 ≤ 700 by omega)
  obtain ⟨F', N'⟩ := news_of_mem F N M
  refine ⟨q, rfl, h q h' tk F' N' ?_⟩
  rintro rfl
  have := (M.nw _ (List.Mem.head _)).2
  rw [(N _ h2).1] at this
  cases this
theorem wrap_init {A : Around} {news' : List (Addr × Obj)} {Q : Value → Shared → Prop} (F : Fr h₀ L s.heap m) (N : News h₀ L s.heap news) (hq : (q, wrapObj "list.__init__" x) ∈ news) (h2 : (x, shelfObj dx #[] 0) ∈ news)
    (U : Upd x (shelfObj dx #[] 0) (shelfObj dx #[] 0) news news')
    (h : ∀ h', Fr h₀ L h' m → News h₀ L h' news' → Q .none { s with heap := h' }) : wpAny (model prog w) A (call (.ref q) []) Q E s := by
  have hx := (N _ h2).1
  refine wrap_call (N _ hq).1 (check_linit x) (quiet_linit x) entry_linit fun A' => ?_
  show wpAny _ _ (Builtin.List.listItems (.ref x) >>= fun old => updateSeq x (fun _ => #[]) >>= fun _ => letGo old.toList.reverse >>= fun _ => ret .none) _ _ s
  unfold Builtin.List.listItems
  refine wpAny_bind (wpAny_bind (wpAny_seqItems hx rfl (wpAny_pure ?_)))
  refine wpAny_bind (wpAny_updateSeq hx rfl (wpAny_bind (wpAny_letGo (wpAny_pure ⟨_, rfl, ?_⟩))) (by decide) (by decide))
  obtain ⟨pre, post, rfl, rfl, a, b⟩ := U.split
  obtain ⟨F', N'⟩ := news_upd (f := Obj.mapSeq fun _ => #[]) (o' := shelfObj dx #[] 0) F N a b (by simp [Obj.mapSeq]) rfl
  exact h _ F' N'
end
end Mine
end

section
open PySem PySem.W PySem.W.X PyProof.Rows
set_option maxRecDepth 100000
namespace Mine
theorem fillK8 : PySem.Challenge.rw_xp0017_01 = PySem.Challenge.rw_xp0017_01 ∧ hd.heap_1 = hd.heap_1 := by
  w_top off
  k_fill
  exact ⟨rfl, rfl⟩
abbrev sizeDict (P : Params) (tk t : Tok) : Obj := dictOf [⟨PyData.keyHash P "_initial_size", .str "_initial_size" tk, .int 0 t⟩] 1
theorem refuse_shelf (self : Value) : refuseLoop self "__setattr__" [.ref 141, .type "list", .type "object"] = pure () := by
  rw [refuseLoop_ref]
  kernel_rfl
section
variable {w : World} {A : Around} {E : Value → Shared → Prop} {s : Shared} {x dx : Addr} {items : Array Value} {n : Nat} {h₀ : Heap} {L : Addr} {m : Str → Option Value} {news news' : List (Addr × Obj)}
theorem shelf_setSize {t : Tok} {Q : Unit → Shared → Prop} (F : Fr h₀ L s.heap m) (X₀ : (hd.heap_1 w.params).In h₀) (N : News h₀ L s.heap news) (h1 : (x, shelfObj dx items n) ∈ news)
    (U : Upd dx emptyDict (sizeDict w.params (s.toks + 1) t) news news')
    (h : ∀ h', Fr h₀ L h' m → News h₀ L h' news' → Q () { s with heap := h', toks := s.toks + 2 }) :
    wpAny (model prog w) A (setAttr (.ref x) "_initial_size" (.int 0 t)) Q E s := by
  have X := X₀.keeps F.keep
  obtain ⟨pre, post, rfl, rfl, a, b⟩ := U.split
  have D := (N (dx, emptyDict) (by simp)).1
  have I : InstAt s.heap x (shelfObj dx items n) 141 (some emptyDict) := ⟨(N _ h1).1, rfl, rfl, D⟩
  refine set_plain X I (by k_is) ?_
  have SF := PySem.F.store_object
  have sub : Looks (model prog w) s.heap (isInstance (.ref x) (.type "object")) true := I.type.andThen (looks_mroIn X (by k_is))
  refine codeAny_call_builtin SF.slot.plain SF.entry (@check_slot (model prog w) _ _ { s with toks := s.toks + 1 } "object.__setattr__" "object" "__setattr__" (.ref x) [.str "_initial_size" s.toks, .int 0 t] [] _ SF.kind SF.split sub (SF.args (.ref x) (.str "_initial_size" s.toks) (.int 0 t)) ?_)
  have hm : Looks (model prog w) s.heap (mroOf (.ref 141)) [.ref 141, .type "list", .type "object"] := Looks.of_peek X (by kernel_rfl)
  have Lf : Looks (model prog w) s.heap (typeLookup (.ref 141) "_initial_size") none := looks_findIn X (by k_is)
  rw [osa_eq, refuse_eq]
  have I' : InstAt (({ s with toks := s.toks + 1 } : Shared).heap) x (shelfObj dx items n) 141 (some emptyDict) := I
  refine wpAny_bind (wpAny_bind (I.type.at (wpAny_bind (hm.at ?_))))
  rw [refuse_shelf]
  refine wpAny_pure (wpAny_bind (I.type.at (wpAny_bind (Lf.at (wpAny_bind (wpAny_pure ?_))))))
  dsimp only
  obtain ⟨U1, U2⟩ := news_upd (f := Obj.putName "_initial_size" (PyData.keyHash w.params "_initial_size") (.str "_initial_size" (s.toks + 1)) (.int 0 t)) (o' := sizeDict w.params (s.toks + 1) t) F N a b (by
    show Obj.putName "_initial_size" (PyData.keyHash w.params "_initial_size") (.str "_initial_size" (s.toks + 1)) (.int 0 t) (dictOf [] 0) = _
    rw [putName_dict]; rfl) rfl
  have D' := (U2 (dx, sizeDict w.params (s.toks + 1) t) (by simp)).1
  refine wpAny_bind (wpAny_pure (wpAny_bind (wpAny_bind (wpAny_loadPart I.at_ (wpAny_bind ((looks_clsIn (cd := (clsIn (hd.heap_1 w.params) 141).get (by kernel_rfl)) X (by simp)).at ?_))))))
  rw [show ((clsIn (hd.heap_1 w.params) 141).get (by kernel_rfl)).hasDict = true by kernel_rfl]
  refine wpAny_pure (a := some dx) (wpAny_bind (wpAny_pure (wpAny_bind ?_)))
  unfold nsSet
  refine wpAny_bind (wpAny_bind (wpAny_askSetting (wpAny_pure (wpAny_bind (wpAny_mkText (wpAny_bind (wpAny_loadPart D ?_)))))))
  dsimp only
  rw [aRefKeyMayBeTheName_at]
  rw [if_neg (by simp)]
  refine wpAny_updatePart D ?_
  refine wpAny_bind (wpAny_lookBehind D' (pastItsLine_dict (by rw [sizeLine_eq]; simp)) ?_)
  exact wpAny_pure (h _ U1 U2)
end
local macro_rules | `(tactic| k_inst) => `(tactic| exact shelf_inst (by k_asm) (by k_mem) (by k_mem))
local macro_rules | `(tactic| walk_at "getMethod ref") => `(tactic| (k_dflt (refine' super_len ?k1 ?k2 ?k3 ?k4 ?k5 ?k6 ?k7 ?_; (case k1 => k_asm); (case k2 => k_asm); (case k3 => k_asm); (case k4 => k_mem); (case k5 => k_mem); (case k6 => (dsimp only [ktrTop]; omega)); (case k7 => (dsimp only [ktrTop]; omega))); intro q' h' tk' F' N'))
local macro_rules | `(tactic| walk_at "callWith ref") => `(tactic| (k_dflt (refine' wrap_callWith ?k1 ?_; (case k1 => exact (News.get (by k_asm) (by k_mem))))))
local macro_rules | `(tactic| walk_at "call ref") => `(tactic| (k_dflt (refine' wrap_len ?k1 ?k2 ?_; (case k1 => exact (News.get (by k_asm) (by k_mem))); (case k2 => exact (News.get (by k_asm) (by k_mem))))))
set_option maxHeartbeats 4000000 in
theorem part_count_claim (w : World) (news : List (Addr × Obj)) (x dx : Addr) (items : Array Value) (n : Nat) (od : Obj) :
    Claim w 138 4 ((x, shelfObj dx items n) :: (dx, od) :: news) [.ref x] (fun v news' => news' = (x, shelfObj dx items n) :: (dx, od) :: news ∧ ∃ t, v = .int items.size t) := by
  unfold Claim
  intro p loose mean mg mb dp un gd cn cs a ccd cl outer A₀ base h₀ L m s Q E B F X N T hk hdp hun hret
  refine wpAny_call ?_
  (k_dflt (refine' ks_code_super ?k1 ?k2 ?k3 ?k4 ?k5 ?kA ?kF ?kK ?k6 ?k7 ?k8 ?k9 ?kB ?_ ?c1 ?c2 ?c3 ?c4; (case kA => exact rfl); (case kF => exact rfl); (case kK => assumption); (case k1 => k_asm); (case k2 => k_asm); (case k3 => k_asm); (case k4 => k_asm); (case k5 => k_asm); (case k6 => k_is); (case k7 => k_is); (case k8 => ktr_room); (case k9 => first | exact BindsTo.of_eq rfl | exact binds_K (by k_in) rfl (by k_is) rfl rfl rfl); (case kB => exact locs rfl); (case c1 => decide); (case c2 => exact rfl); (case c3 => exact rfl); (case c4 => exact rfl); intro g' L' h' FG' F' N' B' X' T' l1; (try dsimp only); (try k_lift B')))
  k_steps
  rename News _ _ _ _ => kN
  exact hret _ _ _ _ (by k_asm) (fun p hp => kN p (.tail _ (.tail _ hp))) ⟨rfl, _, rfl⟩
local macro_rules | `(tactic| walk_at "getMethod ref") => `(tactic| (k_dflt (refine' super_init ?k1 ?k2 ?k3 ?k4 ?k5 ?k6 ?k7 ?_; (case k1 => k_asm); (case k2 => k_asm); (case k3 => k_asm); (case k4 => k_mem); (case k5 => k_mem); (case k6 => (dsimp only [ktrTop]; omega)); (case k7 => (dsimp only [ktrTop]; omega))); intro q' h' tk' F' N' hne'))
local macro_rules | `(tactic| walk_at "setAttr ref") => `(tactic| (k_dflt (refine' shelf_setSize ?k1 ?k2 ?k3 ?k4 ?k5 ?_; (case k1 => k_asm); (case k2 => k_asm); (case k3 => k_asm); (case k4 => k_mem); (case k5 => k_upd)); intro h' F' N'))
theorem acc_under {dp un : Nat} {gd : Option (List Code)} {fs : List Env} : ∃ un', un' ≤ un + 50 ∧ (Around.under { handled := none, depth := dp, frames := some fs, guards := gd, units := un } (.builtin "type.__call__" ⟨[.ref 141], []⟩)) = { handled := none, depth := dp + 1, frames := some fs, guards := gd, units := un' } :=
  ⟨un + (Code.builtin "type.__call__" ⟨[.ref 141], []⟩).cUnits, Nat.add_le_add_left (by decide) _, rfl⟩
local macro_rules | `(tactic| walk_at "call ref") => `(tactic| (k_dflt (refine' wrap_init ?k1 ?k2 ?k3 ?k4 ?k5 ?_; (case k1 => k_asm); (case k2 => k_asm); (case k3 => k_mem); (case k4 => k_mem); (case k5 => k_upd)); intro h' F' N'))
def Hold (P : Prop) : Prop := P
set_option maxHeartbeats 4000000 in
theorem acc_new {w : World} {p : Program} {loose : List Str} {mean : ExcName → Option Value} {mg mb : Str → Option Value}
    {dp un : Nat} {gd : Option (List Code)} {cn : Str} {cs : Scope} {a : Addr} {ccd : Value} {cl : List (Str × Addr)} {outer : List Env} {A₀ : Around} {base h₀ : Heap} {L : Addr} {m : Str → Option Value} {news : List (Addr × Obj)} {s : Shared} {Q E : Value → Shared → Prop}
    (B : Below A₀ base outer h₀) (F : Fr h₀ L s.heap m) (X : (hd.heap_1 w.params).In h₀) (N : News h₀ L s.heap news) (T : Top p loose mean mg mb h₀) (hk : cs.kind = .function) (hdp : dp ≤ 490) (hun : un ≤ 450)
    (hret : ∀ x dx tk t h' tk', Fr h₀ L h' m → News h₀ L h' ((x, shelfObj dx #[] 0) :: (dx, sizeDict w.params tk t) :: news) → OwnOff news [x, dx] → @LT.lt Nat _ dx x → Q (.ref x) { s with heap := h', toks := tk' }) :
    wpAny (model prog w) (ktrTop dp un gd cn cs L a ccd cl outer) (call (.ref 141) []) Q E s := by
  refine acc_make F X N (by omega) (by omega) fun x dx h' tk F' N' hoff hlt => ?_
  obtain ⟨un', hun', eun⟩ := acc_under (dp := dp) (un := un) (gd := gd) (fs := envX cn cs L a ccd cl :: outer)
  rw [eun]
  (k_dflt (refine' ks_code_super ?k1 ?k2 ?k3 ?k4 ?k5 ?kA ?kF ?kK ?k6 ?k7 ?k8 ?k9 ?kB ?_ ?c1 ?c2 ?c3 ?c4; (case kA => exact rfl); (case kF => exact rfl); (case kK => assumption); (case k1 => k_asm); (case k2 => k_asm); (case k3 => k_asm); (case k4 => k_asm); (case k5 => k_asm); (case k6 => k_is); (case k7 => k_is); (case k8 => ktr_room); (case k9 => first | exact BindsTo.of_eq rfl | exact binds_K (by k_in) rfl (by k_is) rfl rfl rfl); (case kB => exact locs rfl); (case c1 => decide); (case c2 => exact rfl); (case c3 => exact rfl); (case c4 => exact rfl); intro g' L' h' FG' F' N' B' X' T' l1; (try dsimp only); (try k_lift B')))
  refine ks_wpAt_execs_cons ?_
  refine wpAt_of_wpAny ?_
  refine wpAny_mono (Q := fun f s' => Hold (f = .next ∧ ∃ h1 tk1 tk t, s' = { s with heap := h1, toks := tk1 } ∧ Fr g' L' h1 (fun y => List.lookup y [("initial_size", Value.int 0 269), ("self", Value.ref x)]) ∧ News g' L' h1 ((x, shelfObj dx #[] 0) :: (dx, sizeDict w.params tk t) :: news))) ?_ ?_ (fun _ _ y => y)
  · k_steps
    exact ⟨rfl, _, _, _, _, rfl, by with_unfolding_all assumption, by assumption⟩
  · rintro f s' ⟨rfl, h1, tk1, tk2, t, rfl, F1, N1⟩
    dsimp only
    clear N' F'
    k_steps
    rename News _ _ _ _ => kN
    exact hret x dx tk2 t _ _ (by k_asm) (fun p hp => kN p (.tail _ (.tail _ hp))) hoff hlt
end Mine
end

section
open PySem PySem.W PySem.W.X PyProof.Rows
set_option maxRecDepth 100000
namespace Mine
theorem fillK9 : PySem.Challenge.rw_xp0017_01 = PySem.Challenge.rw_xp0017_01 ∧ hd.heap_1 = hd.heap_1 := by
  w_top off
  k_fill
  exact ⟨rfl, rfl⟩
section
variable {w : World} {A : Around} {E : Value → Shared → Prop} {s : Shared} {x dx : Addr} {items : Array Value} {n : Nat} {h₀ : Heap} {L : Addr} {m : Str → Option Value} {news news' : List (Addr × Obj)} {od : Obj}
abbrev tupOf (its : Array Value) : Obj := { cls := .type "tuple", data := .seq its }
theorem shelf_sliceTail {value slice : Expr} {i : Nat} {ti : Tok} {ops : List Value} {Q : Value → Shared → Prop} (F : Fr h₀ L s.heap m) (X₀ : (hd.heap_1 w.params).In h₀) (N : News h₀ L s.heap news)
    (h1 : (x, shelfObj dx items n) ∈ news) (h2 : (dx, od) ∈ news)
    (h : ∀ D h', Fr h₀ L h' m → News h₀ L h' ((D, listOf (items.toList.drop i).toArray 0) :: news) → (∀ p ∈ news, p.1 < D) → Q (.ref D) { s with heap := h' })
    (hs : subscripted slice false (.ref x) (.ref s.heap.objs.size) = operate ops (getItem (.ref x) (.ref s.heap.objs.size))) (hz : items.size ≤ 1000) :
    wpAny (model prog w) A (subscriptTail value slice (.ref x) (.ref s.heap.objs.size)) Q E { s with heap := s.heap.push { cls := .type "slice", data := .fields #[.int i ti, .none, .none] } } := by
  have X := X₀.keeps F.keep
  have I := shelf_inst N h1 h2
  have G : ∀ a o, s.heap.get? a = some o → (s.heap.push { cls := .type "slice", data := .fields #[.int i ti, .none, .none] }).get? a = some o := fun _ _ e => Heap.get?_push_of_some _ e
  have I' : InstAt (s.heap.push { cls := .type "slice", data := .fields #[.int i ti, .none, .none] }) x (shelfObj dx items n) 141 (some od) := ⟨G _ _ I.at_, rfl, rfl, G _ _ (N _ h2).1⟩
  have X' : (hd.heap_1 w.params).In (s.heap.push { cls := .type "slice", data := .fields #[.int i ti, .none, .none] }) := X.keeps G
  refine shelf_tail X' I' (shelf_getSlice (lo := some (i : Int)) (hi := none) (st := none) X' I' (Heap.IsSliceOf.new ..) (IsPart.int _ _) IsPart.none IsPart.none (by simp) ?_ (by rw [sizeLine_eq]; omega)) hs
  have ep : slicePick items (some (i : Int)) none none = (items.toList.drop i).toArray := by
    have e : sliceBounds (some (i : Int)) none none items.size = (((min i items.size : Nat) : Int), ((items.size : Nat) : Int), 1) := by
      simp only [sliceBounds, Option.getD_none, show (1 : Int) > 0 by decide, if_true, if_neg (show ¬ ((i : Int) < 0) by omega)]
      congr 1
      omega
    rw [kmk_pick_nat _ e]
    congr 1
    rw [List.take_of_length_le (by rw [List.length_drop, Array.length_toList]; exact Nat.le_refl _), ← Array.length_toList, kmk_drop_min]
  have N1 := News.push (F.push { cls := .type "slice", data := .fields #[.int i ti, .none, .none] }) (N.grown fun _ _ e => Heap.get?_push_of_some _ e) { cls := .type "list", data := .seq (slicePick items (some (i : Int)) none none) }
  refine h _ _ ((F.push _).push _) ?_ fun p hp => ?_
  · rw [ep] at N1
    rw [ep]
    exact N1
  · show @LT.lt Nat _ p.1 (s.heap.push _).objs.size
    rw [Heap.size_push]
    exact Nat.lt_succ_of_lt (Heap.lt_size (N p hp).1)
theorem shelf_setSlicePushed {nw : Nat → List (Addr × Obj)} {v : Addr} {ti : Tok} {lo : Nat} {Q : Unit → Shared → Prop} (F : Fr h₀ L s.heap m) (X₀ : (hd.heap_1 w.params).In h₀) (N : News h₀ L s.heap news)
    (hm1 : (x, shelfObj dx items n) ∈ news) (hm2 : (dx, od) ∈ news) (hv : (v, listOf #[] 0) ∈ news) (hne : x ≠ v) (hlo : lo ≤ items.size)
    (U : ∀ n', Upd x (shelfObj dx items n) (shelfObj dx (items.extract 0 lo) n') news (nw n'))
    (h : ∀ n' h', Fr h₀ L h' m → News h₀ L h' (nw n') → Q () { s with heap := h' })
    (hsz : items.size ≤ 1000) : wpAny (model prog w) A (setItem (.ref x) (.ref s.heap.objs.size) (.ref v)) Q E { s with heap := s.heap.push { cls := .type "slice", data := .fields #[.int lo ti, .none, .none] } } := by
  have G : ∀ a o, s.heap.get? a = some o → (s.heap.push { cls := .type "slice", data := .fields #[.int lo ti, .none, .none] }).get? a = some o := fun _ _ e => Heap.get?_push_of_some _ e
  have N1 := N.grown G
  exact shelf_setSlice (s := { s with heap := s.heap.push { cls := .type "slice", data := .fields #[.int lo ti, .none, .none] } }) (F.push _) X₀ N1 hm1 hm2 (Heap.IsSliceOf.new ..) (IsPart.int _ _) IsPart.none IsPart.none (News.isList N1 hv) hne hlo U h hsz
end
theorem allLt_off {d : Addr} : ∀ {l : List (Addr × Obj)}, AllLt d l → ∀ p ∈ l, p.1 ≠ d
  | [], _, _, h => nomatch h
  | _ :: _, h, _, hp => by
    rcases List.mem_cons.mp hp with rfl | hp
    · exact Nat.ne_of_lt h.1
    · exact allLt_off h.2 _ hp
theorem allLt_to {d : Addr} : ∀ {l : List (Addr × Obj)}, AllLt d l → ∀ p ∈ l, @LT.lt Nat _ p.1 d
  | [], _, _, h => nomatch h
  | _ :: _, h, _, hp => by
    rcases List.mem_cons.mp hp with rfl | hp
    · exact h.1
    · exact allLt_to h.2 _ hp
local macro_rules | `(tactic| k_all) => `(tactic| first | assumption | exact allLt_off (by simp only [*]))
local macro_rules | `(tactic| k_inst) => `(tactic| exact shelf_inst (by k_asm) (by k_mem) (by k_mem))
local macro_rules | `(tactic| walk_at "getMethod ref") => `(tactic| (k_dflt (refine' shelf_method ?k1 ?k2 ?k3 ?k4 ?k5 ?_; (case k1 => k_in); (case k2 => exact shelf_inst (by k_asm) (by k_mem) (by k_mem)); (case k3 => k_is); (case k4 => exact PySem.F.type_list_append); (case k5 => first | exact rfl | assumption); k_whole)))
local macro_rules | `(tactic| walk_at "call builtin:list.append") => `(tactic| (k_dflt (refine' shelf_append ?k1 ?k2 ?k3 ?k4 ?k5 ?k6 ?k7 ?_; (case k1 => k_asm); (case k2 => k_asm); (case k3 => k_asm); (case k4 => k_mem); (case k5 => k_mem); (case k6 => k_upd); (case k7 => assumption); k_whole); intro h' F' N'; (try k_sweep)))
set_option maxHeartbeats 4000000 in
theorem push_claim (w : World) (news : List (Addr × Obj)) (x dx : Addr) (hx : @LT.lt Nat _ dx x) (items : Array Value) (hz : items.size ≤ 1000) (n : Nat) (od : Obj) (hod : lookIn "append" od = some none) (hoff : ∀ p ∈ news, p.1 ≠ x) (u v : Str) (t1 t2 : Tok) :
    Claim w 86 4 ((x, shelfObj dx items n) :: (dx, od) :: news) [.ref x, .str u t1, .str v t2] (fun _ news' => Hold (∃ T n', news' = (T, tupOf #[.str u t1, .str v t2]) :: (x, shelfObj dx (items.push (.ref T)) n') :: (dx, od) :: news ∧ (∀ p ∈ news, p.1 < T) ∧ x < T)) := by
  unfold Claim
  intro p loose mean mg mb dp un gd cn cs a ccd cl outer A₀ base h₀ L m s Q E B F X N T hk hdp hun hret
  refine wpAny_call ?_
  k_dflt ktr_enter
  rename_i g' L' h' FG' F' N' B' X' T'
  k_steps
  rename News _ _ _ _ => kN
  exact hret _ _ _ _ (by k_asm) kN ⟨_, _, rfl, allLt_to (by simp only [*]), by simp only [*]⟩
set_option maxHeartbeats 4000000 in
theorem pop_claim (w : World) (news : List (Addr × Obj)) (x dx : Addr) (hx : @LT.lt Nat _ dx x) (items : Array Value) (hz : items.size ≤ 1000) (n : Nat) (od : Obj) (hoff : ∀ p ∈ news, p.1 ≠ x) (i : Nat) (hi : i ≤ items.size) (t1 : Tok) :
    Claim w 94 4 ((x, shelfObj dx items n) :: (dx, od) :: news) [.ref x, .int i t1] (fun v news' => Hold (∃ D n', v = .ref D ∧ news' = (D, listOf (items.toList.drop i).toArray 0) :: (x, shelfObj dx (items.extract 0 i) n') :: (dx, od) :: news ∧ (∀ p ∈ news, p.1 < D) ∧ x < D)) := by
  unfold Claim
  intro p loose mean mg mb dp un gd cn cs a ccd cl outer A₀ base h₀ L m s Q E B F X N T hk hdp hun hret
  refine wpAny_call ?_
  (k_dflt (refine' code_def ?k1 ?k2 ?k3 ?k4 ?k5 ?kA ?kF ?kK ?k6 ?k7 ?k8 ?k9 ?kB ?_ ?c2 ?c3 ?c4 ?c5; (case kA => exact rfl); (case kF => exact rfl); (case kK => assumption); (case k1 => k_asm); (case k2 => k_asm); (case k3 => k_asm); (case k4 => k_asm); (case k5 => k_asm); (case k6 => k_is); (case k7 => k_is); (case k8 => ktr_room); (case k9 => first | exact BindsTo.of_eq rfl | exact binds_K (by k_in) rfl (by k_is) rfl rfl rfl); (case c5 => decide); (case kB => exact locs rfl); (case c2 => exact rfl); (case c3 => exact rfl); (case c4 => exact rfl); k_whole; intro g' L' h' FG' F' N' B' X' T'; (try dsimp only); (try k_fold)))
  k_steps
  refine' shelf_sliceTail ?k1 ?k2 ?k3 ?k4 ?k5 ?_ ?k6 hz
  case k1 => k_asm
  case k2 => k_asm
  case k3 => k_asm
  case k4 => k_mem
  case k5 => k_mem
  case k6 => with_unfolding_all rfl
  intro D h1 F1 N1 l1
  k_lt l1
  k_steps
  refine' shelf_setSlicePushed ?k1 ?k2 ?k3 ?k4 ?k5 ?k6 ?k7 hi ?k8 ?_ hz
  case k1 => k_asm
  case k2 => k_asm
  case k3 => k_asm
  case k4 => k_mem
  case k5 => k_mem
  case k6 => k_mem
  case k7 => k_ne
  case k8 => (intro n1; exact .tail (by k_ne) (.tail (by k_ne) (.head (List.forall_mem_cons.mpr ⟨by k_ne, hoff⟩))))
  intro n' h2 F2 N2
  k_steps
  rename News _ _ _ _ => kN
  exact hret _ _ _ _ (by k_asm) (fun p hp => kN p (.tail _ hp)) ⟨_, _, rfl, rfl, allLt_to (by simp only [*]), by simp only [*]⟩
end Mine
end

section
open PySem PySem.W PySem.W.X PyProof.Rows
set_option maxRecDepth 100000
namespace Mine
theorem fillK12 : PySem.Challenge.rw_xp0017_01 = PySem.Challenge.rw_xp0017_01 ∧ hd.heap_1 = hd.heap_1 := by
  w_top off
  k_fill
  exact ⟨rfl, rfl⟩
section
variable {w : World} {A : Around} {E : Value → Shared → Prop} {s : Shared} {x dx : Addr} {items : Array Value} {n : Nat} {od : Obj}
/-- a def of the shelf's class met at a shelf -/
theorem shelf_methodF {name : Str} {f : Addr} {pl : Sem Bool} {Q : Value × List Value → Shared → Prop} (X : (hd.heap_1 w.params).In s.heap) (I : InstAt s.heap x (shelfObj dx items n) 141 (some od))
    (hf : findIn (hd.heap_1 w.params) (.ref 141) name = some (some (.ref f))) (ht : typeIn (hd.heap_1 w.params) (.ref f) = some (.type "function")) (hs : lookIn name od = some none) (h : Q (.ref f, [.ref x]) s) :
    wpAny (model prog w) A (getMethod (.ref x) name pl) Q E s := by
  have hcan : (Manifest.canonical "list.__getattribute__" != "object.__getattribute__") = false := by decide +kernel
  unfold getMethod specialOf
  refine wpAny_bind (wpAny_bind (I.type.here ((looks_findIn X (r := some (.builtin "list.__getattribute__")) (by k_is)).here ?_)))
  dsimp only
  rw [hcan, if_neg Bool.false_ne_true]
  refine wpAny_bind (wpAny_bind (I.type.here ((looks_findIn X (r := none) (by k_is)).here ?_)))
  refine wpAny_bind (wpAny_bind (I.type.here ((looks_findIn X hf).here (wpAny_bind ((looks_typeIn X ht).here ?_)))))
  rw [if_neg (by decide +kernel)]
  refine wpAny_bind (wpAny_loadPart I.at_ ?_)
  refine wpAny_bind (wpAny_bind (wpAny_loadPart I.dict ?_))
  rw [nsLook_of hs]
  exact wpAny_pure (wpAny_bind (wpAny_rule (wpAny_pure h)))
end
end Mine
end

section
open PySem PySem.W PyProof.Rows
set_option maxRecDepth 100000
namespace Mine
section
variable {prog : Program} {w : World} {A : Around} {E : Value → Shared → Prop} {s : Shared} {env : Env} {h₀ : Heap} {x : Str} {body : List Stmt} {Q : Flow → Shared → Prop}
def GenEnd (h₀ : Heap) (L I : Addr) (o : Obj) (J : (Str → Option Value) → List (Addr × Obj) → Prop) (s₁ s₂ : Shared) : Prop :=
  ∃ h' tk m' nx, s₂ = { s₁ with heap := h', toks := tk } ∧ Fr h₀ L h' m' ∧ News h₀ L h' ((I, o) :: nx) ∧ (∀ p ∈ nx, p.1 ≠ I) ∧ J m' nx
def GenPost (h₀ : Heap) (L I : Addr) (o : Obj) (J : (Str → Option Value) → List (Addr × Obj) → Prop) (s₁ : Shared) (Q : Flow → Shared → Prop) (f : Flow) (s₂ : Shared) : Prop :=
  match f with
  | .ret v => Q (.ret v) s₂
  | .brk => Q .next s₂
  | _ => GenEnd h₀ L I o J s₁ s₂
theorem gen_core {I : Addr} {fp wr : List Addr} {n : Nat} {P : Nat → Value → Prop} {St : Nat → Heap → Prop} {m₀ : Str → Option Value} {news : List (Addr × Obj)} (J : Nat → (Str → Option Value) → List (Addr × Obj) → Prop)
    (W : Walks prog w A I fp wr n P St) (hIf : I ∈ fp) (hwrI : ∀ b ∈ wr, b = I) (hwI : I ∈ wr) (hLf : env.locals ∉ fp) (hI0 : h₀.get? I = none) (hnw : ∀ p ∈ news, p.1 ≠ I)
    (hfp : ∀ b ∈ fp, b ≠ I → h₀.get? b = none → ∃ lo, ∀ i m nx, J i m nx → (b, lo) ∈ nx) (hSt : ∀ i h, St i h → ∃ o, h.get? I = some o) (hst : St 0 s.heap)
    (F : Fr h₀ env.locals s.heap m₀) (N : News h₀ env.locals s.heap news) (hj : J 0 m₀ news)
    (turn : ∀ i v m₁ nx h tk o, i < n → P i v → (∀ p ∈ nx, p.1 ≠ I) → J i m₁ nx → Fr h₀ env.locals h (fun y => if y = x then some v else m₁ y) → News h₀ env.locals h ((I, o) :: nx) →
      wpAny (model prog w) A (execs body env) (GenPost h₀ env.locals I o (J (i + 1)) { s with heap := h, toks := tk } Q) E { s with heap := h, toks := tk })
    (done : ∀ m₁ nx h tk, J n m₁ nx → Fr h₀ env.locals h m₁ → News h₀ env.locals h nx → Q .next { s with heap := h, toks := tk }) :
    LoopAtV prog w A h₀ env x body Q E (.ref I) s := by
  refine ⟨I, fp, wr, n, P, St, m₀, news, J, rfl, W, hLf, fun b hb => hwrI b hb ▸ hI0, fun p hp hq => hnw p hp (hwrI _ hq), hst, F, N, hj, ?_, ?_⟩
  · rintro i v m₁ nx s₁ own ⟨hh', tk', rfl⟩ hin hP hJ hoff hown hget hall hS F₁ N₁
    obtain ⟨o, ho⟩ := hSt _ _ hS
    have hIo : (I, o) ∈ own := hall I hIf hI0 o ho
    have N₂ : News h₀ env.locals hh' ((I, o) :: nx) := fun p hp => N₁ p (by
      rcases List.mem_cons.mp hp with rfl | hp
      · exact List.mem_append_left _ hIo
      · exact List.mem_append_right _ hp)
    have hoffI : ∀ p ∈ nx, p.1 ≠ I := by
      intro p hp e
      exact hoff p hp (e ▸ hwI)
    refine wpAny_mono (turn i v m₁ nx hh' tk' o hin hP hoffI hJ F₁ N₂) (fun f s₂ p => ?_) fun _ _ e => e
    have fin : GenEnd h₀ env.locals I o (J (i + 1)) { s with heap := hh', toks := tk' } s₂ → LoopStepU h₀ env.locals wr own (J (i + 1)) { s with heap := hh', toks := tk' } .next s₂ := by
      rintro ⟨h', tk, m', nx', e, F', N', hd, hm⟩
      refine ⟨rfl, h', tk, m', nx', e, F', fun p hp => ?_, fun p hp hq => hd p hp (hwrI _ hq), hm⟩
      rcases List.mem_append.mp hp with h | h
      · by_cases hI : p.1 = I
        · have e2 : p.2 = o := by
            have h1 := hget p h
            rw [hI] at h1
            exact Option.some.inj (h1.symm.trans ho)
          have e3 : p = (I, o) := Prod.ext hI e2
          exact e3 ▸ N' _ (.head _)
        · obtain ⟨lo, hlo⟩ := hfp p.1 (hown p h) hI (N₁ p (List.mem_append_left _ h)).2.2
          have h1 := (N₂ _ (.tail _ (hlo _ _ _ hJ))).1
          have e2 : p.2 = lo := Option.some.inj ((hget p h).symm.trans h1)
          have e3 : p = (p.1, lo) := Prod.ext rfl e2
          rw [e3]
          exact N' _ (.tail _ (hlo _ _ _ hm))
      · exact N' p (.tail _ h)
    cases f with
    | ret v => exact .ret p
    | brk => exact .brk p
    | next => exact .next (fin p)
    | cont => exact .cont (fin p)
  · rintro h' tk m' news' F' N' _ hJ
    exact done m' news' h' tk hJ F' N'

/-- what the turn of a loop keeps: a state c with a ledger, names and facts of its own -/
def GenS {σ : Type} (Led : σ → List (Addr × Obj)) (ps : σ → List (Str × Value)) (Facts : σ → Prop) (x : Str) (stored : List Str) (m₀ : Str → Option Value) (P : Nat → σ → Prop) (i : Nat) (m : Str → Option Value) (nx : List (Addr × Obj)) : Prop :=
  ∃ c : σ, nx = Led c ∧ Facts c ∧ (∀ p ∈ ps c, m p.1 = some p.2) ∧ (∀ z, z ≠ x → (∀ p ∈ ps c, z ≠ p.1) → stored.contains z = false → m z = m₀ z) ∧ P i c
theorem gen_end {σ : Type} {Led : σ → List (Addr × Obj)} {ps : σ → List (Str × Value)} {Facts : σ → Prop} {stored : List Str} {m₀ : Str → Option Value} {P : Nat → σ → Prop} {i : Nat} (c : σ) {L I : Addr} {o : Obj} {m' : Str → Option Value} {news' : List (Addr × Obj)} {s₁ : Shared} {h' : Heap} {tk : Nat}
    (F : Fr h₀ L h' m') (N : News h₀ L h' news') (ho : (I, o) ∈ news') (hn : ∀ p ∈ Led c, p ∈ news') (hd : ∀ p ∈ Led c, p.1 ≠ I) (hf : Facts c) (hk : ∀ p ∈ ps c, m' p.1 = some p.2) (hr : ∀ z, z ≠ x → (∀ p ∈ ps c, z ≠ p.1) → stored.contains z = false → m' z = m₀ z) (hp : P i c) :
    GenEnd h₀ L I o (GenS Led ps Facts x stored m₀ P i) s₁ { s₁ with heap := h', toks := tk } :=
  ⟨h', tk, m', Led c, rfl, F, fun p hp' => by
    rcases List.mem_cons.mp hp' with rfl | h
    · exact N _ ho
    · exact N _ (hn _ h), hd, c, rfl, hf, hk, hr, hp⟩
theorem gen_range {σ : Type} {r : Addr} {a₀ b₀ st : Int} {t₀ u₀ v₀ : Tok} {n : Nat} {m₀ : Str → Option Value} (Led : σ → List (Addr × Obj)) (ps : σ → List (Str × Value)) (Facts : σ → Prop) (stored : List Str) (P : Nat → σ → Prop) (c₀ : σ)
    (hh : A.handled = none) (hr : IsRange s.heap r a₀ b₀ st t₀ u₀ v₀) (hsmall : Builtin.Range.small a₀ b₀ st = true) (hn : Builtin.Range.rangeSize a₀ b₀ st = (n : Int)) (F : Fr h₀ env.locals s.heap m₀) (N : News h₀ env.locals s.heap (Led c₀)) (hf : Facts c₀) (hk : ∀ p ∈ ps c₀, m₀ p.1 = some p.2) (hp : P 0 c₀)
    (turn : ∀ (c : σ) (i : Nat) t (u : Str → Option Value) I h tk o, i < n → (∀ p ∈ Led c, p.1 ≠ I) → Facts c → P i c →
      Fr h₀ env.locals h (fun y => if y = x then some (.int (a₀ + i * st) t) else kstB (fun z => if stored.contains z then u z else m₀ z) (ps c) y) → News h₀ env.locals h ((I, o) :: Led c) →
      wpAny (model prog w) A (execs body env) (GenPost h₀ env.locals I o (GenS Led ps Facts x stored m₀ P (i + 1)) { s with heap := h, toks := tk } Q) E { s with heap := h, toks := tk })
    (done : ∀ (c : σ) (u : Str → Option Value) h tk, Facts c → P n c → Fr h₀ env.locals h (fun y => if y = x then u y else kstB (fun z => if stored.contains z then u z else m₀ z) (ps c) y) → News h₀ env.locals h (Led c) → Q .next { s with heap := h, toks := tk }) :
    wpAny (model prog w) A (pyIter (.ref r)) (fun it s₂ => LoopAtV prog w A h₀ env x body Q E it s₂) E s := by
  refine wpAny_pyIter_range hr hsmall ?_
  have W : Walks prog w A s.heap.objs.size [s.heap.objs.size] [s.heap.objs.size] n (fun i v => ∃ t, v = .int (a₀ + i * st) t)
      (fun i h => IsRangeIter h s.heap.objs.size (a₀ + (i : Nat) * st) ((n : Int) - (i : Nat)) st) := Walks.range hh _ a₀ st n
  refine gen_core (GenS Led ps Facts x stored m₀ P) W (by simp) (by simp) (by simp) ?_ (next_is_new F) ?_ ?_ ?_ (by show IsRangeIter _ _ _ _ _; rw [hn]; simpa using Heap.get?_push_size _ rfl) (F.push _) (fun p hp => ⟨Heap.get?_push_of_some _ (N p hp).1, (N p hp).2⟩) ⟨c₀, rfl, hf, hk, fun _ _ _ _ => rfl, hp⟩ ?_ ?_
  · intro hm
    exact absurd F.ns.lt ((List.mem_singleton.mp hm) ▸ Nat.lt_irrefl _)
  · intro p hp hI
    exact absurd (Heap.lt_size (N p hp).1) (hI ▸ Nat.lt_irrefl _)
  · intro b hb hne
    exact absurd (List.mem_singleton.mp hb) hne
  · intro i h hS
    exact ⟨_, hS⟩
  · rintro i v m₁ nx h tk o hi ⟨t, rfl⟩ hoff ⟨c, rfl, hf', h1, h2, hp'⟩ F₁ N₁
    exact turn c i t m₁ _ h tk o hi hoff hf' hp' (kst_fr h1 h2 F₁) N₁
  · rintro m₁ nx h tk ⟨c, rfl, hf', h1, h2, hp'⟩ F₁ N₁
    exact done c m₁ h tk hf' hp' (kst_frOut h1 h2 F₁) N₁
/-- a for loop over a list of the ledger -/
theorem gen_list {σ : Type} {l : Addr} {vs : Array Value} {nn : Nat} {m₀ : Str → Option Value} (Led : σ → List (Addr × Obj)) (ps : σ → List (Str × Value)) (Facts : σ → Prop) (stored : List Str) (P : Nat → σ → Prop) (c₀ : σ)
    (hh : A.handled = none) (hl : ∀ c : σ, (l, listOf vs nn) ∈ Led c) (F : Fr h₀ env.locals s.heap m₀) (N : News h₀ env.locals s.heap (Led c₀)) (hf : Facts c₀) (hk : ∀ p ∈ ps c₀, m₀ p.1 = some p.2) (hp : P 0 c₀)
    (turn : ∀ (c : σ) (i : Nat) v (u : Str → Option Value) I h tk o, vs[i]? = some v → (∀ p ∈ Led c, p.1 ≠ I) → Facts c → P i c →
      Fr h₀ env.locals h (fun y => if y = x then some v else kstB (fun z => if stored.contains z then u z else m₀ z) (ps c) y) → News h₀ env.locals h ((I, o) :: Led c) →
      wpAny (model prog w) A (execs body env) (GenPost h₀ env.locals I o (GenS Led ps Facts x stored m₀ P (i + 1)) { s with heap := h, toks := tk } Q) E { s with heap := h, toks := tk })
    (done : ∀ (c : σ) (u : Str → Option Value) h tk, Facts c → P vs.size c → Fr h₀ env.locals h (fun y => if y = x then u y else kstB (fun z => if stored.contains z then u z else m₀ z) (ps c) y) → News h₀ env.locals h (Led c) → Q .next { s with heap := h, toks := tk }) :
    wpAny (model prog w) A (pyIter (.ref l)) (fun it s₂ => LoopAtV prog w A h₀ env x body Q E it s₂) E s := by
  have hol : s.heap.get? l = some (listOf vs nn) := (N _ (hl c₀)).1
  have hls : s.heap.IsList l vs := ⟨_, hol, rfl, nn, rfl⟩
  have hne : l ≠ s.heap.objs.size := Nat.ne_of_lt (Heap.lt_size hol)
  refine wpAny_pyIter_list hls ?_
  have W := Walks.list (prog := prog) (w := w) hh s.heap.objs.size l hne vs
  refine gen_core (GenS Led ps Facts x stored m₀ P) W (by simp) (by simp) (by simp) ?_ (next_is_new F) ?_ ?_ ?_ ⟨⟨_, Heap.get?_push_size _ rfl, rfl, rfl⟩, hls.at fun o e => Heap.get?_push_of_some _ e⟩ (F.push _) (fun p hp => ⟨Heap.get?_push_of_some _ (N p hp).1, (N p hp).2⟩) ⟨c₀, rfl, hf, hk, fun _ _ _ _ => rfl, hp⟩ ?_ ?_
  · intro hm
    rcases List.mem_cons.mp hm with e | hm
    · exact absurd F.ns.lt (e ▸ Nat.lt_irrefl _)
    · exact (N _ (hl c₀)).2.1 ((List.mem_singleton.mp hm).symm)
  · intro p hp hI
    exact absurd (Heap.lt_size (N p hp).1) (hI ▸ Nat.lt_irrefl _)
  · intro b hb hne _
    refine ⟨listOf vs nn, ?_⟩
    rintro i m nx ⟨c, rfl, _⟩
    have e : b = l := by
      rcases List.mem_cons.mp hb with h | h
      · exact absurd h hne
      · exact List.mem_singleton.mp h
    exact e ▸ hl c
  · rintro i h ⟨⟨o, ho, _⟩, _⟩
    exact ⟨o, ho⟩
  · rintro i v m₁ nx h tk o hi hP hoff ⟨c, rfl, hf', h1, h2, hp'⟩ F₁ N₁
    exact turn c i v m₁ _ h tk o hP hoff hf' hp' (kst_fr h1 h2 F₁) N₁
  · rintro m₁ nx h tk ⟨c, rfl, hf', h1, h2, hp'⟩ F₁ N₁
    exact done c m₁ h tk hf' hp' (kst_frOut h1 h2 F₁) N₁
end
end Mine
end

section
open PySem PySem.W PyProof.Rows
set_option maxRecDepth 100000
namespace Mine
/-- the text of a list of signs -/
def S (l : List Nat) : Str := ⟨l.toArray⟩
theorem S_list (l : List Nat) : (S l).cps.toList = l := rfl
theorem S_len (l : List Nat) : (S l).length = l.length := by show l.toArray.size = _; simp
theorem S_of (x : Str) : x = S x.cps.toList := by cases x; rfl
theorem S_app (a b : List Nat) : S a ++ S b = S (a ++ b) := by
  rw [S_of (S a ++ S b)]
  congr 1
  show ((S a ++ S b).cps).toList = _
  rw [Str.cps_append, Array.toList_append]; rfl
theorem S_from (l : List Nat) {i : Int} (h0 : 0 ≤ i) (h1 : i ≤ l.length) : Txt.slice (S l) (some i) none = S (l.drop i.toNat) := by
  show StrLaws.sliceText _ _ _ = _
  rw [StrLaws.sliceText_from ⟨h0, h1⟩, List.take_of_length_le (by rw [List.length_drop]; show (l.length - i.toNat) ≤ ((l.length : Int) - i).toNat; omega)]; rfl
theorem S_range (l : List Nat) {i j : Int} (h0 : 0 ≤ i) (h1 : i ≤ j) (h2 : j ≤ l.length) : Txt.slice (S l) (some i) (some j) = S ((l.drop i.toNat).take (j - i).toNat) := by
  show StrLaws.sliceText _ _ _ = _
  rw [StrLaws.sliceText_plain ⟨h0, h1, h2⟩]; rfl
theorem S_item (l : List Nat) {i : Int} (h0 : 0 ≤ i) (h1 : i < l.length) : Txt.item (S l) i = S [l.getD i.toNat 0] := by
  unfold Txt.item Txt.charAt
  obtain ⟨j, rfl⟩ := Int.eq_ofNat_of_zero_le h0
  have hj : j < l.length := by omega
  have e : (S l).cps[((j : Nat) : Int).toNat]? = some l[j] := by
    show l.toArray[j]? = _
    simp [hj]
  rw [StrLaws.at_nonneg (Int.natCast_nonneg j) e]
  show (⟨#[l[j]]⟩ : Str) = S [l.getD j 0]
  simp [S, hj]
section
variable {prog : Program} {w : World} {A : Around} {E : Value → Shared → Prop} {s : Shared} {value slice : PySem.Expr} {l : List Nat} {t : Tok} {h₀ : Heap} {L : Addr} {m : Str → Option Value} {news : List (Addr × Obj)} {Q : Value → Shared → Prop}
theorem s_from {i : Int} {ui : Tok} (hF : Fr h₀ L s.heap m) (hN : News h₀ L s.heap news) (h0 : 0 ≤ i) (h1 : i ≤ l.length) (hz : l.length ≤ 1000) (h : ∀ h' t' k, Fr h₀ L h' m → News h₀ L h' news → Q (.str (S (l.drop i.toNat)) t') { s with heap := h', toks := k })
    (hs : subscripted slice false (.str (S l) t) (.ref s.heap.objs.size) = operate [.ref s.heap.objs.size, .str (S l) t] (getItem (.str (S l) t) (.ref s.heap.objs.size)) := by with_unfolding_all rfl)
    (ht : ∀ r, letTemporaryGo value (.str (S l) t) r = pure () := by intro _; with_unfolding_all rfl) :
    wpAny (model prog w) A (subscriptTail value slice (.str (S l) t) (.ref s.heap.objs.size)) Q E { s with heap := s.heap.push { cls := .type "slice", data := .fields #[.int i ui, .none, .none] } } :=
  slice_strN_sn_len hF hN (fun h' t' k a b _ => S_from l h0 h1 ▸ h h' t' k a b) hs ht (by rw [S_len, sizeLine_eq]; omega)
theorem s_range {i j : Int} {ui uj : Tok} (hF : Fr h₀ L s.heap m) (hN : News h₀ L s.heap news) (h0 : 0 ≤ i) (h1 : i ≤ j) (h2 : j ≤ l.length) (hz : l.length ≤ 1000) (h : ∀ h' t' k, Fr h₀ L h' m → News h₀ L h' news → Q (.str (S ((l.drop i.toNat).take (j - i).toNat)) t') { s with heap := h', toks := k })
    (hs : subscripted slice false (.str (S l) t) (.ref s.heap.objs.size) = operate [.ref s.heap.objs.size, .str (S l) t] (getItem (.str (S l) t) (.ref s.heap.objs.size)) := by with_unfolding_all rfl)
    (ht : ∀ r, letTemporaryGo value (.str (S l) t) r = pure () := by intro _; with_unfolding_all rfl) :
    wpAny (model prog w) A (subscriptTail value slice (.str (S l) t) (.ref s.heap.objs.size)) Q E { s with heap := s.heap.push { cls := .type "slice", data := .fields #[.int i ui, .int j uj, .none] } } :=
  slice_strN_ss_len hF hN (fun h' t' k a b _ => S_range l h0 h1 h2 ▸ h h' t' k a b) hs ht (by rw [S_len, sizeLine_eq]; omega)
theorem s_item {i : Int} {u : Tok} (h0 : 0 ≤ i) (h1 : i < l.length) (hz : l.length ≤ 1000) (h : Q (.str (S [l.getD i.toNat 0]) s.toks) { s with toks := s.toks + 1 })
    (hs : subscripted slice false (.str (S l) t) (.int i u) = operate [.str (S l) t, .int i u] (getItem (.str (S l) t) (.int i u)) := by with_unfolding_all rfl)
    (ht : ∀ r, letTemporaryGo value (.str (S l) t) r = pure () := by intro _; with_unfolding_all rfl) :
    wpAny (model prog w) A (subscriptTail value slice (.str (S l) t) (.int i u)) Q E s :=
  item_str (fitsSsize_of (N := 9223372036854775808) (by omega) (by omega) (Int.le_refl _)) (by rw [S_len]; omega) (by rw [S_len]; omega) (fun _ => S_item l h0 h1 ▸ h) hs ht
theorem s_add {a b : List Nat} {t u : Tok} (hz : a.length + b.length ≤ 10000) (h : ∀ t' tk, Q (.str (S (a ++ b)) t') { s with toks := tk }) : wpAny (model prog w) A (binaryOp .Add (.str (S a) t) (.str (S b) u)) Q E s :=
  PyProof.Rows.add_str (fun t' tk => by rw [S_app]; exact h t' tk) (by rw [S_len, S_len, sizeLine_eq]; omega)
theorem s_iadd {a b : List Nat} {t u : Tok} (hz : a.length + b.length ≤ 10000) (h : ∀ t' tk, Q (.str (S (a ++ b)) t') { s with toks := tk }) : wpAny (model prog w) A (inplaceOp .Add (.str (S a) t) (.str (S b) u)) Q E s :=
  PyProof.Rows.iadd_str (fun t' tk => by rw [S_app]; exact h t' tk) (by rw [S_len, S_len, sizeLine_eq]; omega)
theorem s_len {a : List Nat} {t : Tok} (hz : a.length ≤ 10000) (h : Q (.int a.length (s.toks + 1)) { s with toks := s.toks + 1 + 1 }) : wpAny (model prog w) A (call (.builtin "len") [.str (S a) t]) Q E s :=
  len_str (by rw [S_len]; omega) (S_len a ▸ h)
end
end Mine
end

section
namespace Mine
/-- the starts that stand on the shelf after i turns, the top one first -/
def chainAt (lt : Nat → Nat → Bool) (n : Nat) : Nat → List Nat
  | 0 => []
  | i + 1 => (n - 1 - i) :: (chainAt lt n i).dropWhile fun q => !lt q (n - 1 - i)
theorem dropWhile_head {p : Nat → Bool} : ∀ {l r : List Nat} {a : Nat}, l.dropWhile p = a :: r → p a = false
  | [], _, _, h => by simp at h
  | b :: l, r, a, h => by
    rw [List.dropWhile_cons] at h
    by_cases hb : p b = true
    · rw [if_pos hb] at h
      exact dropWhile_head h
    · rw [if_neg hb] at h
      cases h
      simpa using hb
structure ChainOk (lt : Nat → Nat → Bool) (n i : Nat) (ch : List Nat) : Prop where
  head : ch.headD n = n - i
  bnd : ∀ q ∈ ch, n - i ≤ q ∧ q < n
  up : ch.Pairwise (· < ·)
  down : ch.Pairwise fun a b => lt b a = true
theorem chain_ok {lt : Nat → Nat → Bool} (tr : ∀ a b c, lt a b = true → lt b c = true → lt a c = true) (n : Nat) : ∀ i, i ≤ n → ChainOk lt n i (chainAt lt n i)
  | 0, _ => ⟨by simp [chainAt], by simp [chainAt], by simp [chainAt], by simp [chainAt]⟩
  | i + 1, h => by
    have ih := chain_ok tr n i (by omega)
    have sub : ((chainAt lt n i).dropWhile fun q => !lt q (n - 1 - i)).Sublist (chainAt lt n i) := List.dropWhile_sublist _
    refine ⟨?_, ?_, ?_, ?_⟩
    · show n - 1 - i = _
      omega
    · intro q hq
      rcases List.mem_cons.mp hq with rfl | hq
      · omega
      · have := ih.bnd q (sub.subset hq)
        omega
    · refine List.pairwise_cons.mpr ⟨fun q hq => ?_, ih.up.sublist sub⟩
      have := ih.bnd q (sub.subset hq)
      omega
    · refine List.pairwise_cons.mpr ⟨fun q hq => ?_, ih.down.sublist sub⟩
      have hd := ih.down.sublist sub
      generalize hr : ((chainAt lt n i).dropWhile fun q => !lt q (n - 1 - i)) = r at hq hd
      cases r with
      | nil => cases hq
      | cons a r =>
        have h1 : lt a (n - 1 - i) = true := by simpa using dropWhile_head hr
        rcases List.mem_cons.mp hq with rfl | hq
        · exact h1
        · exact tr _ _ _ ((List.pairwise_cons.mp hd).1 q hq) h1
theorem drop_of_cut {p : Nat → Bool} : ∀ (ch : List Nat) (c : Nat), c ≤ ch.length → (∀ j, j < c → p (ch.getD j 0) = true) → (∀ j, c ≤ j → j < ch.length → p (ch.getD j 0) = false) → ch.dropWhile p = ch.drop c
  | [], c, hc, _, _ => by simp at hc; simp [hc]
  | a :: r, 0, _, _, h2 => by
    have := h2 0 (Nat.le_refl _) (by simp)
    simp at this
    simp [List.dropWhile_cons, this]
  | a :: r, c + 1, hc, h1, h2 => by
    have h0 : p a = true := by simpa using h1 0 (by omega)
    rw [List.dropWhile_cons, if_pos h0, List.drop_succ_cons]
    refine drop_of_cut r c (by simpa using hc) (fun j hj => ?_) (fun j hj hj' => ?_)
    · simpa using h1 (j + 1) (by omega)
    · simpa using h2 (j + 1) (by omega) (by simpa using hj')
/-- where the word at place n-1-i ends -/
def wordEnd (lt : Nat → Nat → Bool) (n i : Nat) : Nat := ((chainAt lt n i).dropWhile fun q => !lt q (n - 1 - i)).headD n
theorem list_lt_trans {a b c : List Nat} (h1 : a < b) (h2 : b < c) : a < c := List.lt_trans h1 h2
end Mine
namespace Mine
theorem chain_len (lt : Nat → Nat → Bool) (n : Nat) : ∀ i, (chainAt lt n i).length ≤ i
  | 0 => Nat.le_refl _
  | i + 1 => by
    have ih := chain_len lt n i
    have sub : ((chainAt lt n i).dropWhile fun q => !lt q (n - 1 - i)).Sublist (chainAt lt n i) := List.dropWhile_sublist _
    have := sub.length_le
    show (_ :: _).length ≤ _
    rw [List.length_cons]
    omega
end Mine
end

section
open PySem PySem.W PyProof.Rows
set_option maxRecDepth 100000
namespace Mine
/-- the shelf's values, the top one first, for the starts ch -/
def Stk (l : List Nat) (led : List (Addr × Obj)) : List Value → List Nat → Prop
  | [], [] => True
  | v :: vs, q :: r => (∃ T t1 t2, v = .ref T ∧ (T, tupOf #[.str (S ((l.drop q).take (r.headD l.length - q))) t1, .str (S (l.drop (r.headD l.length))) t2]) ∈ led) ∧ Stk l led vs r
  | _, _ => False
theorem Stk.len {l : List Nat} {led : List (Addr × Obj)} : ∀ {vs : List Value} {ch : List Nat}, Stk l led vs ch → vs.length = ch.length
  | [], [], _ => rfl
  | _ :: _, _ :: _, h => congrArg (· + 1) h.2.len
  | [], _ :: _, h => h.elim
  | _ :: _, [], h => h.elim
theorem Stk.mono {l : List Nat} {led led' : List (Addr × Obj)} (hs : ∀ p ∈ led, p ∈ led') : ∀ {vs : List Value} {ch : List Nat}, Stk l led vs ch → Stk l led' vs ch
  | [], [], _ => trivial
  | _ :: _, _ :: _, ⟨⟨T, t1, t2, e, hm⟩, h⟩ => ⟨⟨T, t1, t2, e, hs _ hm⟩, h.mono hs⟩
  | [], _ :: _, h => h.elim
  | _ :: _, [], h => h.elim
theorem Stk.drop {l : List Nat} {led : List (Addr × Obj)} : ∀ {vs : List Value} {ch : List Nat} (c : Nat), Stk l led vs ch → Stk l led (vs.drop c) (ch.drop c)
  | vs, ch, 0, h => h
  | [], [], c + 1, _ => trivial
  | _ :: _, _ :: _, c + 1, h => h.2.drop c
  | [], _ :: _, _ + 1, h => h.elim
  | _ :: _, [], _ + 1, h => h.elim
theorem Stk.get {l : List Nat} {led : List (Addr × Obj)} : ∀ {vs : List Value} {ch : List Nat} (j : Nat), Stk l led vs ch → j < vs.length →
    ∃ T t1 t2, vs[j]? = some (.ref T) ∧ (T, tupOf #[.str (S ((l.drop (ch.getD j 0)).take ((ch.drop (j + 1)).headD l.length - ch.getD j 0))) t1, .str (S (l.drop ((ch.drop (j + 1)).headD l.length))) t2]) ∈ led
  | _ :: _, _ :: _, 0, ⟨⟨T, t1, t2, e, hm⟩, _⟩, _ => ⟨T, t1, t2, by rw [e]; rfl, hm⟩
  | _ :: _, _ :: _, j + 1, h, hj => h.2.get j (Nat.lt_of_succ_lt_succ hj)
  | [], _, _, _, hj => absurd hj (Nat.not_lt_zero _)
  | _ :: _, [], _, h, _ => h.elim
theorem cat_piece (l : List Nat) {q e : Nat} (h : q ≤ e) : (l.drop q).take (e - q) ++ l.drop e = l.drop q := by
  have : l.drop e = (l.drop q).drop (e - q) := by rw [List.drop_drop]; congr 1; omega
  rw [this, List.take_append_drop]
theorem cat_two (l : List Nat) {p q e : Nat} (h : p ≤ q) (h2 : q ≤ e) : (l.drop p).take (q - p) ++ (l.drop q).take (e - q) = (l.drop p).take (e - p) := by
  have : l.drop q = (l.drop p).drop (q - p) := by rw [List.drop_drop]; congr 1; omega
  rw [this, show e - p = (q - p) + (e - q) by omega, List.take_add]
theorem up_le {n : Nat} : ∀ {ch : List Nat} (j : Nat), (∀ q ∈ ch, q < n) → ch.Pairwise (· < ·) → j < ch.length → ch.getD j 0 ≤ (ch.drop (j + 1)).headD n
  | a :: [], 0, hb, _, _ => by simpa using Nat.le_of_lt (hb a (.head _))
  | a :: b :: r, 0, _, hp, _ => by simpa using Nat.le_of_lt ((List.pairwise_cons.mp hp).1 b (.head _))
  | a :: r, j + 1, hb, hp, hj => by
    have := up_le j (fun q hq => hb q (.tail _ hq)) (List.pairwise_cons.mp hp).2 (by simpa using hj)
    simpa using this
  | [], _, _, _, hj => absurd hj (Nat.not_lt_zero _)
theorem getD_reverse {α : Type} (l : List α) (d : α) {j : Nat} (h : j < l.length) : l.reverse.getD j d = l.getD (l.length - 1 - j) d := by
  rw [List.getD_eq_getElem?_getD, List.getD_eq_getElem?_getD, List.getElem?_reverse h]
theorem Stk.keys {l : List Nat} {led : List (Addr × Obj)} {its : Array Value} {ch : List Nat} (h : Stk l led its.toList.reverse ch) (hb : ∀ q ∈ ch, q < l.length) (hup : ch.Pairwise (· < ·)) {j : Nat} {v : Value} (hv : its[j]? = some v) :
    ∃ T u w t1 t2, v = .ref T ∧ (T, tupOf #[.str (S u) t1, .str (S w) t2]) ∈ led ∧ u ++ w = l.drop (ch.reverse.getD j 0) ∧ u.length + w.length ≤ l.length := by
  have hlen : its.toList.reverse.length = ch.length := h.len
  rw [List.length_reverse] at hlen
  have hj : j < its.toList.length := by
    obtain ⟨hj, _⟩ := Array.getElem?_eq_some_iff.mp hv
    simpa using hj
  obtain ⟨T, t1, t2, e, hm⟩ := h.get (its.toList.length - 1 - j) (by rw [List.length_reverse]; omega)
  rw [List.getElem?_reverse (by omega), show its.toList.length - 1 - (its.toList.length - 1 - j) = j by omega] at e
  have e2 : its.toList[j]? = some v := by simpa using hv
  have e3 : v = .ref T := Option.some.inj (e2.symm.trans e)
  have hq := getD_reverse ch 0 (j := j) (by omega)
  rw [← hlen] at hq
  have hle := up_le (its.toList.length - 1 - j) hb hup (by omega)
  have hc := cat_piece l hle
  refine ⟨T, _, _, t1, t2, e3, hm, by rw [hc, hq], ?_⟩
  rw [← List.length_append, hc, List.length_drop]
  omega
theorem map_getD (g : List Nat → List Nat) (l : List Nat) : ∀ (ch : List Nat) (j : Nat), j < ch.length → (ch.map fun q => g (l.drop q)).getD j [] = g (l.drop (ch.getD j 0))
  | [], _, h => absurd h (Nat.not_lt_zero _)
  | _ :: _, 0, _ => rfl
  | _ :: r, j + 1, h => map_getD g l r j (Nat.lt_of_succ_lt_succ h)
theorem pairwise_getD {α : Type} {R : α → α → Prop} (d : α) : ∀ {l : List α} {i j : Nat}, l.Pairwise R → i < j → j < l.length → R (l.getD i d) (l.getD j d)
  | [], _, _, _, _, hj => absurd hj (Nat.not_lt_zero _)
  | a :: r, 0, j + 1, h, _, hj => by
    have hj' : j < r.length := Nat.lt_of_succ_lt_succ hj
    have := (List.pairwise_cons.mp h).1 r[j] (List.getElem_mem hj')
    simpa [hj'] using this
  | a :: r, i + 1, j + 1, h, hij, hj => by
    have := pairwise_getD (R := R) d (List.pairwise_cons.mp h).2 (Nat.lt_of_succ_lt_succ hij) (Nat.lt_of_succ_lt_succ hj)
    simpa using this
/-- the order in which the shelf's starts stand -/
def ltOf (g : List Nat → List Nat) (l : List Nat) (p q : Nat) : Bool := decide (g (l.drop p) < g (l.drop q))
theorem ltOf_tr (g : List Nat → List Nat) (l : List Nat) (a b c : Nat) (h1 : ltOf g l a b = true) (h2 : ltOf g l b c = true) : ltOf g l a c = true :=
  decide_eq_true (list_lt_trans (of_decide_eq_true h1) (of_decide_eq_true h2))
theorem keys_sorted {g : List Nat → List Nat} {l ch : List Nat} (hd : ch.Pairwise fun a b => ltOf g l b a = true) {i j : Nat} (hij : i < j) (hj : j < ch.length) :
    (ch.reverse.map fun q => g (l.drop q)).getD i [] < (ch.reverse.map fun q => g (l.drop q)).getD j [] := by
  have h1 : ch.reverse.Pairwise fun a b => ltOf g l a b = true := List.pairwise_reverse.mpr hd
  rw [map_getD g l _ i (by rw [List.length_reverse]; omega), map_getD g l _ j (by rw [List.length_reverse]; omega)]
  exact of_decide_eq_true (pairwise_getD (R := fun a b => ltOf g l a b = true) 0 h1 hij (by rw [List.length_reverse]; omega))
theorem cut_drop {g : List Nat → List Nat} {l ch : List Nat} {p r : Nat} (hr : r ≤ ch.length) (h1 : ∀ j, j < r → (ch.reverse.map fun q => g (l.drop q)).getD j [] < g (l.drop p))
    (h2 : ∀ j, r ≤ j → j < ch.length → ¬ (ch.reverse.map fun q => g (l.drop q)).getD j [] < g (l.drop p)) : ch.dropWhile (fun q => !ltOf g l q p) = ch.drop (ch.length - r) := by
  have key : ∀ j, j < ch.length → ltOf g l (ch.getD j 0) p = decide ((ch.reverse.map fun q => g (l.drop q)).getD (ch.length - 1 - j) [] < g (l.drop p)) := by
    intro j hj
    rw [map_getD g l _ _ (by rw [List.length_reverse]; omega), getD_reverse ch 0 (by omega), show ch.length - 1 - (ch.length - 1 - j) = j by omega]
    rfl
  refine drop_of_cut ch _ (by omega) (fun j hj => ?_) fun j hj hj' => ?_
  · show (!ltOf g l (ch.getD j 0) p) = true
    rw [key j (by omega), decide_eq_false (h2 _ (by omega) (by omega))]; rfl
  · show (!ltOf g l (ch.getD j 0) p) = false
    rw [key j hj', decide_eq_true (h1 _ (by omega))]; rfl
theorem take_one (l : List Nat) {p : Nat} (h : p < l.length) : [l.getD p 0] = (l.drop p).take 1 := by
  rw [List.drop_eq_getElem_cons h, List.take_succ_cons, List.take_zero, List.getD_eq_getElem?_getD, List.getElem?_eq_getElem h]
  rfl
theorem rest_rev (its : Array Value) (r : Nat) : (its.extract 0 r).toList.reverse = its.toList.reverse.drop (its.toList.length - r) := by
  rw [List.drop_reverse]
  congr 1
  rw [Array.toList_extract]
  have e : its.toList.length = its.size := Array.length_toList
  rw [e]
  simp [List.extract]
  omega
theorem popped_get {its : Array Value} {r j : Nat} {v : Value} (h : ((its.toList.drop r).toArray.toList.reverse).toArray[j]? = some v) : j < its.toList.length - r ∧ its.toList.reverse[j]? = some v := by
  have h1 : (its.toList.drop r).reverse[j]? = some v := by simpa using h
  obtain ⟨hj, _⟩ := List.getElem?_eq_some_iff.mp h1
  have hj' : j < its.toList.length - r := by simpa using hj
  refine ⟨hj', ?_⟩
  rw [List.reverse_drop, List.getElem?_take_of_lt hj'] at h1
  exact h1
theorem popped_size {its : Array Value} {r : Nat} : ((its.toList.drop r).toArray.toList.reverse).toArray.size = its.toList.length - r := by simp
end Mine
end

section
open PySem PySem.W PySem.W.X PyProof.Rows
set_option maxRecDepth 100000
namespace Mine
theorem fillK13 : PySem.Challenge.rw_xp0017_01 = PySem.Challenge.rw_xp0017_01 ∧ hd.heap_1 = hd.heap_1 := by
  w_top off
  k_fill
  exact ⟨rfl, rfl⟩
theorem stopHere {P : Prop} (h : Hold P) : P := h
theorem claim_use {w : World} {f : Addr} {rd : Nat} {news : List (Addr × Obj)} {vs : List Value} {post : Value → List (Addr × Obj) → Prop} (C : Claim w f rd news vs post) {p : Program} {loose : List Str} {mean : ExcName → Option Value} {mg mb : Str → Option Value}
    {dp un : Nat} {gd : Option (List Code)} {cn : Str} {cs : Scope} {a : Addr} {ccd : Value} {cl : List (Str × Addr)} {outer : List Env} {A₀ : Around} {base h₀ : Heap} {L : Addr} {m : Str → Option Value} {s : Shared} {Q E : Value → Shared → Prop}
    (B : Below A₀ base outer h₀) (F : Fr h₀ L s.heap m) (X : (hd.heap_1 w.params).In h₀) (N : News h₀ L s.heap news) (T : Top p loose mean mg mb h₀) (hk : cs.kind = .function) (hd : dp + rd ≤ 500) (hu : un + 8 * rd ≤ 500)
    (ret : Ret h₀ L m news s Q post) : wpAny (model prog w) (ktrTop dp un gd cn cs L a ccd cl outer) (call (.ref f) vs) Q E s :=
  C p loose mean mg mb dp un gd cn cs a ccd cl outer A₀ base h₀ L m s Q E B F X N T hk hd hu ret
def ClaimK (w : World) (f : Addr) (rd : Nat) (news : List (Addr × Obj)) (vs : List Value) (kw : List (Str × Value)) (post : Value → List (Addr × Obj) → Prop) : Prop :=
  ∀ (p : Program) (loose : List Str) (mean : ExcName → Option Value) (mg mb : Str → Option Value)
    (dp un : Nat) (gd : Option (List Code)) (cn : Str) (cs : Scope) (a : Addr) (ccd : Value) (cl : List (Str × Addr)) (outer : List Env) (A₀ : Around) (base h₀ : Heap) (L : Addr) (m : Str → Option Value) (s : Shared) (Q E : Value → Shared → Prop),
    Below A₀ base outer h₀ → Fr h₀ L s.heap m → (hd.heap_1 w.params).In h₀ → News h₀ L s.heap news → Top p loose mean mg mb h₀ → cs.kind = .function →
    dp + rd ≤ 500 → un + 8 * rd ≤ 500 → Ret h₀ L m news s Q post →
      wpAny (model prog w) (ktrTop dp un gd cn cs L a ccd cl outer) (call (.ref f) vs kw) Q E s
section
variable {w : World} {A : Around} {E : Value → Shared → Prop} {s : Shared} {x dx : Addr} {items : Array Value} {n : Nat} {od : Obj}
theorem shelf_item {value slice : Expr} {k : Int} {t : Tok} {ops : List Value} {v : Value} {Q : Value → Shared → Prop} (X : (hd.heap_1 w.params).In s.heap) (I : InstAt s.heap x (shelfObj dx items n) 141 (some od)) (h0 : 0 ≤ k) (hfit : k < 2 ^ 63) (hx : items[k.toNat]? = some v) (h : Q v s)
    (hs : subscripted slice false (.ref x) (.int k t) = operate ops (getItem (.ref x) (.int k t))) : wpAny (model prog w) A (subscriptTail value slice (.ref x) (.int k t)) Q E s :=
  shelf_tail X I (shelf_getItem X I h0 hfit hx h) hs
end
/-- where y stands among the keys -/
def Cut (ks : List (List Nat)) (y : List Nat) (size r : Nat) : Prop :=
  r ≤ size ∧ (∀ j, j < r → ks.getD j [] < y) ∧ ∀ j, r ≤ j → j < size → ¬ ks.getD j [] < y
set_option hygiene false in
local macro_rules | `(tactic| walk_at "callWith ref") => `(tactic| (k_dflt (refine' callWith_F ?k1 ?_; (case k1 => exact hfa _ _ _ (by k_asm)); k_whole)))
set_option hygiene false in
local macro_rules | `(tactic| walk_at "subscriptTail") => `(tactic| (k_dflt (refine' shelf_item ?k1 ?k2 ?k5 ?k6 hv ?_ ?k7; (case k1 => k_in); (case k2 => exact shelf_inst (by k_asm) (by k_mem) (by k_mem)); (case k5 => omega); (case k6 => omega); (case k7 => with_unfolding_all rfl))))
set_option hygiene false in
local macro_rules | `(tactic| walk_at "FnAt") => `(tactic| (exact hfa _ _ _ (by k_asm)))
set_option hygiene false in
local macro_rules | `(tactic| walk_at "call ref") => `(tactic| (k_dflt (refine' claim_use (hkey _ _ hv) ?k1 ?k2 ?k3 ?k4 ?k5 ?k6 ?k7 ?k8 ?_; (case k1 => k_asm); (case k2 => k_asm); (case k3 => k_asm); (case k4 => k_asm); (case k5 => k_asm); (case k6 => exact rfl); (case k7 => (dsimp only [ktrTop]; omega)); (case k8 => (dsimp only [ktrTop]; omega))); intro v' news' h' tk' F' N' hp'; obtain ⟨hnn, t', hvv⟩ := hp'; subst hnn; subst hvv))
local macro_rules | `(tactic| walk_at "exec While Compare") => `(tactic| (refine stopHere ?_))
def BisP (w : World) (news : List (Addr × Obj)) (x dx f : Addr) (od : Obj) (items : Array Value) (n : Nat) (y : List Nat) (t1 t2 t3 : Tok) (ks : List (List Nat)) (c : Cx) : Prop :=
  items.size ≤ 1000 → ks.length = items.size → (∀ i j, i < j → j < items.size → ks.getD i [] < ks.getD j []) →
    (∀ j v, items[j]? = some v → Claim w f 10 ((x, shelfObj dx items n) :: (dx, od) :: news) [v] (fun r news' => news' = (x, shelfObj dx items n) :: (dx, od) :: news ∧ ∃ t, r = .str (S (ks.getD j [])) t)) →
    (∀ h₀ L h, News h₀ L h ((x, shelfObj dx items n) :: (dx, od) :: news) → FnAt f h) →
    Below c.A₀ c.base c.outer c.h₀ → Fr c.h₀ c.L c.s.heap c.m → (hd.heap_1 w.params).In c.h₀ → News c.h₀ c.L c.s.heap ((x, shelfObj dx items n) :: (dx, od) :: news) → Top c.p c.loose c.mean c.mg c.mb c.h₀ → c.cs.kind = .function →
    c.dp + 14 ≤ 500 → c.un + 8 * 14 ≤ 500 → Ret c.h₀ c.L c.m ((x, shelfObj dx items n) :: (dx, od) :: news) c.s c.Q (fun v news' => news' = (x, shelfObj dx items n) :: (dx, od) :: news ∧ ∃ (r : Nat) (t : Tok), v = .int r t ∧ Cut ks y items.size r) →
      wpAny (model prog w) (ktrTop c.dp c.un c.gd c.cn c.cs c.L c.a c.ccd c.cl c.outer) (call (.ref 62) [.ref x, .str (S y) t1, .int 0 t2, .int items.size t3] [("key", .ref f)]) c.Q c.E c.s
namespace BlN
@[irreducible] noncomputable def ea : World × List (Addr × Obj) × Addr × Addr × Addr × Obj × Array Value × Nat × List Nat × Tok × Tok × Tok × List (List Nat) × Cx := worst (w0, [], 0, 0, 0, default, #[], 0, [], 0, 0, 0, [], cx0) fun e => BisP e.1 e.2.1 e.2.2.1 e.2.2.2.1 e.2.2.2.2.1 e.2.2.2.2.2.1 e.2.2.2.2.2.2.1 e.2.2.2.2.2.2.2.1 e.2.2.2.2.2.2.2.2.1 e.2.2.2.2.2.2.2.2.2.1 e.2.2.2.2.2.2.2.2.2.2.1 e.2.2.2.2.2.2.2.2.2.2.2.1 e.2.2.2.2.2.2.2.2.2.2.2.2.1 e.2.2.2.2.2.2.2.2.2.2.2.2.2
@[irreducible] noncomputable def w : World := ea.1
@[irreducible] noncomputable def news : List (Addr × Obj) := ea.2.1
@[irreducible] noncomputable def x : Addr := ea.2.2.1
@[irreducible] noncomputable def dx : Addr := ea.2.2.2.1
@[irreducible] noncomputable def f : Addr := ea.2.2.2.2.1
@[irreducible] noncomputable def od : Obj := ea.2.2.2.2.2.1
@[irreducible] noncomputable def items : Array Value := ea.2.2.2.2.2.2.1
@[irreducible] noncomputable def n : Nat := ea.2.2.2.2.2.2.2.1
@[irreducible] noncomputable def y : List Nat := ea.2.2.2.2.2.2.2.2.1
@[irreducible] noncomputable def t1 : Tok := ea.2.2.2.2.2.2.2.2.2.1
@[irreducible] noncomputable def t2 : Tok := ea.2.2.2.2.2.2.2.2.2.2.1
@[irreducible] noncomputable def t3 : Tok := ea.2.2.2.2.2.2.2.2.2.2.2.1
@[irreducible] noncomputable def ks : List (List Nat) := ea.2.2.2.2.2.2.2.2.2.2.2.2.1
@[irreducible] noncomputable def cx : Cx := ea.2.2.2.2.2.2.2.2.2.2.2.2.2
set_option maxHeartbeats 4000000 in
noncomputable def sa : {P : Heap → Addr → Heap → Nat → (Nat × Nat × Tok × Tok) → (Str → Option Value) → Heap → Nat → Prop // Hid (∀ g' L' h' tk c u h tkc, P g' L' h' tk c u h tkc) → BisP w news x dx f od items n y t1 t2 t3 ks cx} := by
  refine' ⟨_, fun H => _⟩
  rotate_left
  · unfold BisP
    intro hz hl hsort hkey hfa B F X N T hk hdp hun hret
    refine wpAny_call ?_
    (k_dflt (refine' code_def ?k1 ?k2 ?k3 ?k4 ?k5 ?kA ?kF ?kK ?k6 ?k7 ?k8 ?k9 ?kB ?_ ?c2 ?c3 ?c4 ?c5; (case kA => exact rfl); (case kF => exact rfl); (case kK => assumption); (case k1 => k_asm); (case k2 => k_asm); (case k3 => k_asm); (case k4 => k_asm); (case k5 => k_asm); (case k6 => k_is); (case k7 => k_is); (case k8 => ktr_room); (case k9 => first | exact BindsTo.of_eq rfl | exact binds_K (by k_in) rfl (by k_is) rfl rfl rfl); (case c5 => decide); (case kB => exact locs rfl); (case c2 => exact rfl); (case c3 => exact rfl); (case c4 => exact rfl); k_whole; intro g' L' h' FG' F' N' B' X' T'; (try dsimp only); (try k_fold)))
    k_steps
    unfold Hold
    with_unfolding_all refine' ksw_while (σ := Nat × Nat × Tok × Tok) (fun _ => (x, shelfObj dx items n) :: (dx, od) :: news) (fun c => [(Str.ofString "lo", Value.int (c.1 : Nat) c.2.2.1), (Str.ofString "hi", Value.int (c.2.1 : Nat) c.2.2.2)]) (fun _ => True) [Str.ofString "lo", Str.ofString "hi", Str.ofString "mid"] (fun c => c.1 ≤ c.2.1 ∧ c.2.1 ≤ items.size ∧ (∀ j, j < c.1 → ks.getD j [] < y) ∧ ∀ j, c.2.1 ≤ j → j < items.size → ¬ ks.getD j [] < y) (fun c => c.2.1 - c.1) (0, items.size, t2, t3) F' N' trivial ?w1 ?w2 ?w3
    case w1 => exact List.forall_mem_cons.mpr ⟨rfl, List.forall_mem_cons.mpr ⟨rfl, List.forall_mem_nil _⟩⟩
    case w2 => exact ⟨Nat.zero_le _, Nat.le_refl _, fun j h => absurd h (Nat.not_lt_zero _), fun j h1 h2 => absurd h2 (Nat.not_lt_of_le h1)⟩
    intro c u h tkc hTr hP F1 N1
    clear F' N'
    revert hz hl hsort hkey hfa B F X N T hk hdp hun hret FG' B' X' T' hP F1 N1
    dsimp only
    exact H.out g' L' h' tk c u h tkc
@[irreducible] noncomputable def eb : Heap × Addr × Heap × Nat × (Nat × Nat × Tok × Tok) × (Str → Option Value) × Heap × Nat := worst (hp0, 0, hp0, 0, ((0, 0, 0, 0)), (fun _ => none), hp0, 0) fun e => sa.1 e.1 e.2.1 e.2.2.1 e.2.2.2.1 e.2.2.2.2.1 e.2.2.2.2.2.1 e.2.2.2.2.2.2.1 e.2.2.2.2.2.2.2
@[irreducible] noncomputable def g' : Heap := eb.1
@[irreducible] noncomputable def L' : Addr := eb.2.1
@[irreducible] noncomputable def h' : Heap := eb.2.2.1
@[irreducible] noncomputable def tk : Nat := eb.2.2.2.1
@[irreducible] noncomputable def c : Nat × Nat × Tok × Tok := eb.2.2.2.2.1
@[irreducible] noncomputable def u : Str → Option Value := eb.2.2.2.2.2.1
@[irreducible] noncomputable def h : Heap := eb.2.2.2.2.2.2.1
@[irreducible] noncomputable def tkc : Nat := eb.2.2.2.2.2.2.2
local macro_rules | `(tactic| walk_at "ite") => `(tactic| (first | (refine ite_pos (by first | omega | (simp only [decide_eq_true_eq]; omega)) ?_) | (refine ite_neg (by first | omega | (simp only [decide_eq_true_eq]; omega)) ?_)))
set_option maxHeartbeats 4000000 in
theorem sb : sa.1 g' L' h' tk c u h tkc := by
  unfold sa
  dsimp only
  intro hz hl hsort hkey hfa B F X N T hk hdp hun hret FG' B' X' T' hP F1 N1
  obtain ⟨hc1, hc2, hc3, hc4⟩ := hP
  have hv : c.1 < c.2.1 → items[(((c.1 : Int) + (c.2.1 : Int)).fdiv 2).toNat]? = some (items.getD ((c.1 + c.2.1) / 2) .none) := by
    intro hlt
    have e : (((c.1 : Int) + (c.2.1 : Int)).fdiv 2).toNat = (c.1 + c.2.1) / 2 := by
      rw [Int.fdiv_eq_ediv_of_nonneg _ (by decide)]
      omega
    have h3 : (c.1 + c.2.1) / 2 < items.size := by omega
    rw [e]
    simp [h3]
  rcases Nat.lt_or_ge c.1 c.2.1 with hlt | hlt
  · replace hv := hv hlt
    have hm : 0 ≤ ((c.1 : Int) + (c.2.1 : Int)).fdiv 2 ∧ ((c.1 : Int) + (c.2.1 : Int)).fdiv 2 < 2 ^ 62 := by
      rw [Int.fdiv_eq_ediv_of_nonneg _ (by decide)]
      omega
    obtain ⟨hm1, hm2⟩ := hm
    k_steps
    all_goals
      have em : (((c.1 : Int) + (c.2.1 : Int)).fdiv 2).toNat = (c.1 + c.2.1) / 2 := by
        rw [Int.fdiv_eq_ediv_of_nonneg _ (by decide)]
        omega
      have em' : ((c.1 : Int) + (c.2.1 : Int)).fdiv 2 = ((c.1 + c.2.1) / 2 : Nat) := by
        rw [Int.fdiv_eq_ediv_of_nonneg _ (by decide)]
        omega
      have lo_eq : ∀ t : Tok, some (Value.int (((c.1 : Int) + (c.2.1 : Int)).fdiv 2 + 1) t) = some (Value.int (((c.1 + c.2.1) / 2 + 1 : Nat) : Int) t) := fun t => by rw [em']; rfl
      have hi_eq : ∀ t : Tok, some (Value.int (((c.1 : Int) + (c.2.1 : Int)).fdiv 2) t) = some (Value.int (((c.1 + c.2.1) / 2 : Nat) : Int) t) := fun t => by rw [em']
      have b1 : (c.1 + c.2.1) / 2 + 1 ≤ c.2.1 := by omega
      have b2 : c.1 ≤ (c.1 + c.2.1) / 2 := by omega
      have b3 : (c.1 + c.2.1) / 2 ≤ items.size := by omega
    · rename (S (ks.getD _ [])).cps.toList < _ => hlow
      rw [em, S_list, S_list] at hlow
      refine ksw_end ((c.1 + c.2.1) / 2 + 1, c.2.1, _, _) (by k_asm) (by k_asm) (fun _ h => h) trivial (List.forall_mem_cons.mpr ⟨lo_eq _, List.forall_mem_cons.mpr ⟨rfl, List.forall_mem_nil _⟩⟩) ?_ ?_ ?_
      · intro z h2 h3
        have hz1 : z ≠ Str.ofString "lo" := h2 _ (.head _)
        have hz2 : z ≠ Str.ofString "hi" := h2 _ (.tail _ (.head _))
        have hz3 : z ≠ Str.ofString "mid" := by
          intro e; subst e; revert h3; decide
        simp only [kstB, if_neg hz1, if_neg hz2, if_neg hz3, h3, Bool.false_eq_true, if_false]
      · refine ⟨b1, hc2, fun j hj => ?_, hc4⟩
        rcases Nat.lt_or_eq_of_le (Nat.le_of_lt_succ hj) with h | h
        · exact list_lt_trans (hsort j _ h (by omega)) hlow
        · exact h ▸ hlow
      · show c.2.1 - ((c.1 + c.2.1) / 2 + 1) < c.2.1 - c.1
        omega
    · rename ¬ (S (ks.getD _ [])).cps.toList < _ => hlow
      rw [em, S_list, S_list] at hlow
      refine ksw_end (c.1, (c.1 + c.2.1) / 2, c.2.2.1, _) (by k_asm) (by k_asm) (fun _ h => h) trivial (List.forall_mem_cons.mpr ⟨?_, List.forall_mem_cons.mpr ⟨hi_eq _, List.forall_mem_nil _⟩⟩) ?_ ?_ ?_
      · rfl
      · intro z h2 h3
        have hz1 : z ≠ Str.ofString "lo" := h2 _ (.head _)
        have hz2 : z ≠ Str.ofString "hi" := h2 _ (.tail _ (.head _))
        have hz3 : z ≠ Str.ofString "mid" := by
          intro e; subst e; revert h3; decide
        simp only [kstB, if_neg hz1, if_neg hz2, if_neg hz3, h3, Bool.false_eq_true, if_false]
      · refine ⟨b2, b3, hc3, fun j hj hj' => ?_⟩
        rcases Nat.lt_or_eq_of_le hj with h | h
        · exact fun h5 => hlow (list_lt_trans (hsort _ j h hj') h5)
        · exact h ▸ hlow
      · show (c.1 + c.2.1) / 2 - c.1 < c.2.1 - c.1
        omega
  · clear hv
    k_steps
    exact hret _ _ _ _ (by k_asm) (by k_asm) ⟨rfl, c.1, _, rfl, by omega, hc3, fun j h1 h2 => hc4 j (by omega) h2⟩
end BlN
theorem bisect_claim (w : World) (news : List (Addr × Obj)) (x dx f : Addr) (od : Obj) (items : Array Value) (n : Nat) (hz : items.size ≤ 1000) (y : List Nat) (t1 t2 t3 : Tok) (ks : List (List Nat)) (hl : ks.length = items.size)
    (hsort : ∀ i j, i < j → j < items.size → ks.getD i [] < ks.getD j [])
    (hkey : ∀ j v, items[j]? = some v → Claim w f 10 ((x, shelfObj dx items n) :: (dx, od) :: news) [v] (fun r news' => news' = (x, shelfObj dx items n) :: (dx, od) :: news ∧ ∃ t, r = .str (S (ks.getD j [])) t))
    (hfa : ∀ h₀ L h, News h₀ L h ((x, shelfObj dx items n) :: (dx, od) :: news) → FnAt f h) :
    ClaimK w 62 14 ((x, shelfObj dx items n) :: (dx, od) :: news) [.ref x, .str (S y) t1, .int 0 t2, .int items.size t3] [("key", .ref f)] (fun v news' => news' = (x, shelfObj dx items n) :: (dx, od) :: news ∧ ∃ (r : Nat) (t : Tok), v = .int r t ∧ Cut ks y items.size r) :=
  fun p loose mean mg mb dp un gd cn cs a ccd cl outer A₀ base h₀ L m s Q E => of_worst (P := fun e => BisP e.1 e.2.1 e.2.2.1 e.2.2.2.1 e.2.2.2.2.1 e.2.2.2.2.2.1 e.2.2.2.2.2.2.1 e.2.2.2.2.2.2.2.1 e.2.2.2.2.2.2.2.2.1 e.2.2.2.2.2.2.2.2.2.1 e.2.2.2.2.2.2.2.2.2.2.1 e.2.2.2.2.2.2.2.2.2.2.2.1 e.2.2.2.2.2.2.2.2.2.2.2.2.1 e.2.2.2.2.2.2.2.2.2.2.2.2.2) (c := BlN.ea) (by with_unfolding_all rfl) (by with_unfolding_all exact BlN.sa.2 (.mk fun a0_0 a0_1 a0_2 a0_3 a0_4 a0_5 a0_6 a0_7 => of_worst (P := fun e => BlN.sa.1 e.1 e.2.1 e.2.2.1 e.2.2.2.1 e.2.2.2.2.1 e.2.2.2.2.2.1 e.2.2.2.2.2.2.1 e.2.2.2.2.2.2.2) (c := BlN.eb) (by with_unfolding_all rfl) (by with_unfolding_all exact BlN.sb) (a0_0, a0_1, a0_2, a0_3, a0_4, a0_5, a0_6, a0_7))) (w, news, x, dx, f, od, items, n, y, t1, t2, t3, ks, ⟨p, loose, mean, mg, mb, dp, un, gd, cn, cs, a, ccd, cl, outer, A₀, base, h₀, L, m, s, Q, E⟩) hz hl hsort hkey hfa
end Mine
end

section
open PySem PySem.W PySem.W.X PyProof.Rows
set_option maxRecDepth 100000
namespace Mine
theorem fillK14 : PySem.Challenge.rw_xp0017_01 = PySem.Challenge.rw_xp0017_01 ∧ hd.heap_1 = hd.heap_1 := by
  w_top off
  k_fill
  exact ⟨rfl, rfl⟩
/-- the table of a def's inner codes: nothing yet, or the one lambda's -/
def TabSt (tabs : List (Addr × Obj)) : Prop :=
  tabs = [(168, tabObj #[])] ∨ ∃ c' oc vs t, tabs = [(c', oc), (168, tabObj #[rawInt 125, rawInt 80, .ref c'])] ∧ oc.data = .fields vs ∧ vs[1]? = some (.str "_law_words.<locals>.<lambda>" t) ∧ @LT.lt Nat _ 168 c'
theorem code172 {P : Params} {h : Heap} (X : (hd.heap_1 P).In h) : CodeHd h 172 168 := by
  refine ⟨_, _, _, _, _, _, _, _, _, X _ _ (by k_is), rfl, rfl, rfl, rfl, rfl, rfl, rfl, rfl, by decide⟩
section
variable {M : Model} {A : Around} {E : Value → Shared → Prop} {s : Shared} {h₀ : Heap} {L a : Addr} {m mg mb : Str → Option Value} {cn : Str} {cs : Scope} {cl : List (Str × Addr)} {tabs pre post : List (Addr × Obj)}
  {p : Program} {loose : List Str} {mean : ExcName → Option Value} {name : Str} {params : Arguments} {body : Expr} {scope : Scope} {clos : List (Str × Addr)} {firstLine e1 e2 : Nat}
theorem lam_make {Q : Value → Shared → Prop} (F : Fr h₀ L s.heap m) (N : News h₀ L s.heap (pre ++ (tabs ++ post))) (T : Top p loose mean mg mb h₀) (C : CodeHd h₀ 172 168) (hT : TabSt tabs) (hpre : ∀ p ∈ pre, p.1 ≠ 168) (hpost : ∀ p ∈ post, p.1 ≠ 168)
    (hcl : closureFor scope (envX cn cs L a (.ref 172) cl) = pure clos)
    (h : ∀ f c' oc vs t ctv tabs' h' tk, Fr h₀ L h' m →
      News h₀ L h' ((f, kla_obj name "_law_words.<locals>.<lambda>" params body scope clos ((mg "__name__").getD .none) c' ctv) :: (pre ++ (tabs' ++ post))) → TabSt tabs' → (c', oc) ∈ tabs' →
      oc.data = .fields vs → vs[1]? = some (.str "_law_words.<locals>.<lambda>" t) → (∀ q ∈ pre ++ (tabs ++ post), @LT.lt Nat _ q.1 f) → (∀ b, (∀ q ∈ tabs, q.1 ≠ b) → (∃ q ∈ pre ++ (tabs ++ post), q.1 = b) → ∀ q ∈ tabs', q.1 ≠ b) → Q (.ref f) { s with heap := h', toks := tk }) :
    wpAny M A (makeFunction name "_law_words.<locals>.<lambda>" params (.expr body) scope (envX cn cs L a (.ref 172) cl) [] [] [] ⟨125, 80, e1, e2⟩ firstLine) Q E s := by
  rcases hT with rfl | ⟨c', oc, vs, t, rfl, hd, hv, hlt⟩
  · have U : UpdF 168 (tabObj #[]) (pre ++ ([(168, tabObj #[])] ++ post)) (fun o => pre ++ ([(168, o)] ++ post)) := by
      clear N h
      induction pre with
      | nil => exact .head hpost
      | cons q r ih => exact .tail (hpre q (.head _)) (ih fun p hp => hpre p (.tail _ hp))
    refine kla_nest F N T C rfl U (by simp [TriplesOk]) (by rfl) hcl fun f c' oc vs t ctv h' tk F' N' hd hv l1 l2 => ?_
    have hfresh : ∀ b, (∀ q ∈ [((168 : Addr), tabObj #[])], q.1 ≠ b) → (∃ q ∈ pre ++ ([(168, tabObj #[])] ++ post), q.1 = b) → ∀ q ∈ [(c', oc), (168, tabObj #[rawInt 125, rawInt 80, .ref c'])], q.1 ≠ b := by
      rintro b h1 ⟨q, hq, rfl⟩ r hr e
      rcases List.mem_cons.mp hr with rfl | hr
      · exact absurd (l1 q hq) (e ▸ Nat.lt_irrefl _)
      · rw [List.mem_singleton.mp hr] at e
        exact h1 _ (List.mem_singleton.mpr rfl) e
    refine h f c' oc vs t ctv [(c', oc), (168, tabObj #[rawInt 125, rawInt 80, .ref c'])] h' tk F' (fun p hp => N' p ?_) (.inr ⟨c', oc, vs, t, rfl, hd, hv, l1 (168, tabObj #[]) (by simp)⟩) (.head _) hd hv (fun q hq => Nat.lt_trans (l1 q hq) l2) hfresh
    rcases List.mem_cons.mp hp with rfl | hp
    · exact .head _
    · rcases List.mem_append.mp hp with hp | hp
      · exact .tail _ (.tail _ (List.mem_append_left _ hp))
      · rcases List.mem_append.mp hp with hp | hp
        · rcases List.mem_cons.mp hp with rfl | hp
          · exact .tail _ (.head _)
          · exact .tail _ (.tail _ (List.mem_append_right _ (List.mem_append_left _ hp)))
        · exact .tail _ (.tail _ (List.mem_append_right _ (List.mem_append_right _ hp)))
  · refine kla_hit F N T C rfl (ps := #[rawInt 125, rawInt 80, .ref c']) (by simp) (by simp [TriplesOk, rawInt]) (c' := c') (by simp [codeAmong, rawInt]) hcl fun f ctv h' tk F' N' l1 => ?_
    exact h f c' oc vs t ctv _ h' tk F' N' (.inr ⟨c', oc, vs, t, rfl, hd, hv, hlt⟩) (.head _) hd hv (fun q hq => l1 q hq) fun b h1 _ => h1
end
end Mine
end

section
open PySem PySem.W PySem.W.X PyProof.Rows
set_option maxRecDepth 100000
namespace Mine
theorem fillK11 : PySem.Challenge.rw_xp0017_01 = PySem.Challenge.rw_xp0017_01 ∧ hd.heap_1 = hd.heap_1 := by
  w_top off
  k_fill
  exact ⟨rfl, rfl⟩
theorem TabSt.has {tabs : List (Addr × Obj)} (h : TabSt tabs) : ∃ ob, (168, ob) ∈ tabs := by
  rcases h with rfl | ⟨c', oc, vs, t, rfl, _⟩
  · exact ⟨_, .head _⟩
  · exact ⟨_, .tail _ (.head _)⟩
theorem getElem?_of_push {ws : Array Value} {v : Value} {j : Nat} (h : j < ws.size) : (ws.push v)[j]? = ws[j]? := by
  rw [Array.getElem?_push_lt h]
  simp [h]
structure WS where
  its : Array Value
  n : Nat
  ws : Array Value
  wn : Nat
  tabs : List (Addr × Obj)
  tups : List (Addr × Obj)
local macro_rules | `(tactic| walk_at "call ref") => `(tactic| (k_dflt (refine' acc_new ?k1 ?k2 ?k3 ?k4 ?k5 ?k6 ?k7 ?k8 ?_; (case k1 => k_asm); (case k2 => k_asm); (case k3 => k_asm); (case k4 => k_asm); (case k5 => k_asm); (case k6 => exact rfl); (case k7 => (dsimp only [ktrTop]; omega)); (case k8 => (dsimp only [ktrTop]; omega))); intro x' dx' tk' t' h' tk'' F' N' hoff' hlt'))
local macro_rules | `(tactic| walk_at "eval Name") => `(tactic| (k_dflt (refine' nameX_F ?N ?c ?m ?d ?_ ?a ?b; (case b => rfl); (case a => rfl); (case N => k_asm); (case c => rfl); (case m => k_mem); (case d => k_asm); k_whole)))
local macro_rules | `(tactic| walk_at "subscriptTail") => `(tactic| ((with_reducible show wpAny _ _ (subscriptTail _ _ (Value.ref _) (Value.int _ _)) _ _ _); k_dflt (refine' item_tupleT ?t ?a ?b ?c ?d ?_; (case t => exact News.isTup (by k_asm) (by assumption)); (case a => decide); (case b => decide); (case c => rfl); (case d => rfl); k_whole)))
local macro_rules | `(tactic| walk_at "binaryOp Add str str") => `(tactic| (k_dflt (refine' s_add ?a ?_; (case a => (simp only [List.length_drop, List.length_append, List.length_take] at *; omega))); intro t' tk'))
local macro_rules | `(tactic| walk_at "subscriptTail Name Name str int") => `(tactic| ((with_reducible show wpAny _ _ (subscriptTail _ _ (Value.str _ _) (Value.int _ _)) _ _ _); k_dflt (refine' s_item ?a ?b ?c ?_; (case a => omega); (case b => omega); (case c => omega))))
local macro_rules | `(tactic| walk_at "exec For") => `(tactic| ((rename Fr _ _ _ _ => lF'); (with_unfolding_all refine' For_invVF lF' ?k1 ?k2 ?_; (case k1 => exact rfl); (case k2 => exact rfl); k_whole)))
local macro_rules | `(tactic| walk_at "subscriptTail Name Slice ref ref") => `(tactic| (k_dflt (refine' krv_lit ?F ?N ?l ?k ?e ?_ ?s ?t ?z; (case F => k_asm); (case N => k_asm); (case l => kmk_list); (case k => exact IsPart.int _ _); (case e => exact rfl); (case s => with_unfolding_all rfl); (case t => kmk_pure); (case z => (simp only [List.size_toArray, List.length_drop, Array.length_toList, sizeLine_eq]; omega))); intro D' h' F' N' l1))
local macro_rules | `(tactic| walk_at "inplaceOp Add str str") => `(tactic| (k_dflt (refine' s_iadd ?a ?_; (case a => omega)); intro t' tk'))
local macro_rules | `(tactic| walk_at "call builtin:list.append") => `(tactic| (k_dflt (refine stopHere ?_)))
local macro_rules | `(tactic| walk_at "eval Lambda") => `(tactic| (refine stopHere ?_))
local macro_rules | `(tactic| walk_at "pyIter ref") => `(tactic| (refine stopHere ?_))
local macro_rules | `(tactic| k_is) => `(tactic| assumption)
set_option hygiene false in
local macro_rules | `(tactic| walk_at "call ref") => `(tactic| (k_dflt (refine' claim_use (hw _ _ _ ?len) ?k1 ?k2 ?k3 ?k4 ?k5 ?k6 ?k7 ?k8 ?_; (case k1 => k_asm); (case k2 => k_asm); (case k3 => k_asm); (case k4 => k_asm); (case k5 => k_asm); (case k6 => exact rfl); (case k7 => (dsimp only [ktrTop]; omega)); (case k8 => (dsimp only [ktrTop]; omega)); (case len => (simp only [List.length_drop, List.length_append, List.length_take]; omega))); intro v' news' h' tk' F' N' hp'; obtain ⟨hnn, t', hvv⟩ := hp'; subst hnn; subst hvv))
local macro_rules | `(tactic| walk_at "subscriptTail") => `(tactic| ((with_reducible rename Fr _ _ _ _ => F'); (with_reducible rename News _ _ _ _ => N'); k_dflt (refine' s_from (s := ⟨_, _, _, _, _⟩) F' N' ?a ?b ?c ?_; (case a => omega); (case b => omega); (case c => omega)); intro h' t' k' F' N'; (try k_sweep)))
local macro_rules | `(tactic| walk_at "call builtin:len") => `(tactic| (k_dflt (refine' s_len ?a ?_; (case a => omega))))
local macro_rules | `(tactic| walk_at "getMethod ref") => `(tactic| (k_dflt (refine' shelf_methodF ?k1 ?k2 ?k3 ?k4 ?k5 ?_; (case k1 => k_in); (case k2 => exact shelf_inst (by k_asm) (by k_mem) (by k_mem)); (case k3 => exact rfl); (case k4 => exact rfl); (case k5 => exact rfl); k_whole)))
local macro_rules | `(tactic| k_inst) => `(tactic| exact shelf_inst (by k_asm) (by k_mem) (by k_mem))
set_option hygiene false in
local macro_rules | `(tactic| walk_at "call ref") => `(tactic| (k_dflt (refine' claim_use (part_count_claim _ _ _ _ _ _ _) ?k1 ?k2 ?k3 ?k4 ?k5 ?k6 ?k7 ?k8 ?_; (case k1 => k_asm); (case k2 => k_asm); (case k3 => k_asm); (case k4 => k_asm); (case k5 => k_asm); (case k6 => exact rfl); (case k7 => (dsimp only [ktrTop]; omega)); (case k8 => (dsimp only [ktrTop]; omega))); intro v' news' h' tk' F' N' hp'; obtain ⟨hnn, t', hvv⟩ := hp'; subst hnn; subst hvv))
local macro_rules | `(tactic| walk_at "call ref") => `(tactic| ((with_reducible show wpAny _ _ (call (Value.ref 62) _ _) _ _ _); refine stopHere ?_))
local macro_rules | `(tactic| walk_at "call ref") => `(tactic| ((with_reducible show wpAny _ _ (call (Value.ref 94) _) _ _ _); refine stopHere ?_))
local macro_rules | `(tactic| walk_at "call ref") => `(tactic| ((with_reducible show wpAny _ _ (call (Value.ref 86) _) _ _ _); refine stopHere ?_))
/-- the words told so far -/
def WordsTo (lt : Nat → Nat → Bool) (l : List Nat) (ws : Array Value) (i : Nat) : Prop :=
  ws.size = i ∧ ∀ j, j < i → ∃ t, ws[j]? = some (.str (S ((l.drop (l.length - 1 - j)).take (wordEnd lt l.length j - (l.length - 1 - j)))) t)
/-- the words from each place on -/
def WordsAre (lt : Nat → Nat → Bool) (l : List Nat) (vals : Array Value) : Prop :=
  vals.size = l.length ∧ ∀ p, p < l.length → ∃ t, vals[p]? = some (.str (S ((l.drop p).take (wordEnd lt l.length (l.length - 1 - p) - p))) t)
def WordsP (w : World) (tabs news : List (Addr × Obj)) (l : List Nat) (t : Tok) (wr : Addr) (g : List Nat → List Nat) (c : Cx) : Prop :=
  TabSt tabs → (∀ p ∈ news, p.1 ≠ 168) → l.length ≤ 9 → keepIn (hd.heap_1 w.params) (.ref wr) = true → (∀ news (x : List Nat) t, x.length ≤ 200 → Claim w wr 4 news [.str (S x) t] (fun v news' => news' = news ∧ ∃ t, v = .str (S (g x)) t)) →
    ClaimAt w 173 20 (tabs ++ news) [.str (S l) t, .ref wr] (fun v news' => Hold (∃ W vals tabs', v = .ref W ∧ news' = (W, listOf vals 0) :: (tabs' ++ news) ∧ TabSt tabs' ∧ WordsAre (ltOf g l) l vals ∧ ∀ p ∈ tabs' ++ news, @LT.lt Nat _ p.1 W)) c
namespace WoN
@[irreducible] noncomputable def ea : World × List (Addr × Obj) × List (Addr × Obj) × List Nat × Tok × Addr × (List Nat → List Nat) × Cx := worst (w0, [], [], [], 0, 0, id, cx0) fun e => WordsP e.1 e.2.1 e.2.2.1 e.2.2.2.1 e.2.2.2.2.1 e.2.2.2.2.2.1 e.2.2.2.2.2.2.1 e.2.2.2.2.2.2.2
@[irreducible] noncomputable def w : World := ea.1
@[irreducible] noncomputable def tabs : List (Addr × Obj) := ea.2.1
@[irreducible] noncomputable def news : List (Addr × Obj) := ea.2.2.1
@[irreducible] noncomputable def l : List Nat := ea.2.2.2.1
@[irreducible] noncomputable def t : Tok := ea.2.2.2.2.1
@[irreducible] noncomputable def wr : Addr := ea.2.2.2.2.2.1
@[irreducible] noncomputable def g : List Nat → List Nat := ea.2.2.2.2.2.2.1
@[irreducible] noncomputable def cx : Cx := ea.2.2.2.2.2.2.2
set_option maxHeartbeats 16000000 in
noncomputable def sa : {P : Heap → Addr → Obj → Addr → Addr → Tok → Tok → Addr → WS → Nat → Tok → (Str → Option Value) → Addr → Heap → Nat → Obj → Prop // Hid (∀ g' L' o x1 dx1 tkd td lw c i ti u I h tk o', P g' L' o x1 dx1 tkd td lw c i ti u I h tk o') → WordsP w tabs news l t wr g cx} := by
  refine' ⟨_, fun H => _⟩
  rotate_left
  · unfold WordsP ClaimAt
    intro hT hn168 hx hkw hw B F X N T hk hdp hun hret
    refine wpAny_call ?_
    (k_dflt (refine' code_defC ?k1 ?k2 ?k3 ?k4 ?k5 ?kA ?kF ?kK ?k6 ?k7 ?k8 ?k9 ?kB ?kD ?_ ?c2 ?c3 ?c4; (case kA => exact rfl); (case kF => exact rfl); (case kK => assumption); (case k1 => k_asm); (case k2 => k_asm); (case k3 => k_asm); (case k4 => k_asm); (case k5 => k_asm); (case k6 => k_is); (case k7 => k_is); (case k8 => ktr_room); (case k9 => first | exact BindsTo.of_eq rfl | exact binds_K (by k_in) rfl (by k_is) rfl rfl rfl | fail "k_enter: no rule for these arguments"); (case kB => exact rfl); (case kD => decide +kernel); (case c2 => exact rfl); (case c3 => exact rfl); (case c4 => exact rfl); k_whole; intro g' L' h' tk' cells' FG' F' N' Y' B' X' T' l1; (try k_lt l1); k_cells Y'; (try simp only [List.cons_append, List.nil_append] at N'); (try dsimp only); (try k_lift B'); (try k_fold)))
    rename_i o d1
    have hl1 : ∀ p ∈ tabs ++ news, p.1 < L' := by first | exact l1 | exact l1.1
    k_steps
    rename OwnOff _ _ => hoff
    rename_i x1 dx1 tkd td h1 tk1 hlt h2 lw h3 lt3 h4 F4 N4 h6 tk6 ta ua va rg F6 N6 k6
    clear N4 F4 k6
    have d2 : o.data = .cell (some (.ref wr)) := d1
    clear d1
    unfold Hold
    refine gen_range (n := l.length) (fun c : WS => (x1, shelfObj dx1 c.its c.n) :: (dx1, sizeDict w.params tkd td) :: (lw, listOf c.ws c.wn) :: (L' + 1, o) :: (c.tabs ++ (c.tups ++ news))) (fun _ => []) (fun c => TabSt c.tabs ∧ (∀ p ∈ c.tabs, p.1 ≠ x1 ∧ p.1 ≠ lw) ∧ ∀ p ∈ c.tups, p.1 ≠ 168 ∧ p.1 ≠ x1 ∧ p.1 ≠ lw) ["k", "word", "piece"] (fun i c => Stk l c.tups c.its.toList.reverse (chainAt (ltOf g l) l.length i) ∧ WordsTo (ltOf g l) l c.ws i) ⟨#[], 0, #[], 0, tabs, []⟩
      rfl rg (small_down (by omega) (by omega) (by omega) (by omega)) (by rw [rangeSize_down]; split <;> omega) F6 ?_ ?_ (by simp) ⟨trivial, rfl, fun j hj => absurd hj (Nat.not_lt_zero _)⟩ ?_ ?_
    · intro p hp
      exact N6 p (by simp only [List.mem_cons, List.mem_append, List.nil_append] at hp ⊢; grind)
    · refine ⟨hT, fun p hp => ⟨hoff p (.tail _ (List.mem_append_left _ hp)) _ (.head _), ?_⟩, fun p hp => nomatch hp⟩
      exact allLt_off lt3.2.2.2 p (List.mem_append_left _ hp)
    · intro c i ti u I h tk o' hi hI hFc hPc F7 N7
      clear F6 N6
      revert hT hn168 hx hkw hw B F X N T hk hdp hun hret FG' B' X' T' l1 hl1 hoff hlt lt3 d2 hi hI hFc hPc F7 N7
      dsimp only
      exact H.out g' L' o x1 dx1 tkd td lw c i ti u I h tk o'
    · rintro c u h tk ⟨hP, htabs, htups⟩ ⟨hstk, hws⟩ F7 N7
      clear F6 N6
      have hws1 := hws.1
      k_steps
      rename News _ _ _ _ => kN
      rename ∀ p ∈ ((x1, shelfObj dx1 c.its c.n) :: _), p.1 < _ => hlast
      refine hret _ _ _ _ (by k_asm) (fun p hp => kN p ?_) ⟨_, c.ws.toList.reverse.toArray, c.tabs, rfl, rfl, hP, ⟨?_, fun p hp => ?_⟩, fun p hp => hlast p (.tail _ (.tail _ (.tail _ (.tail _ ?_))))⟩
      · simp only [List.mem_cons, List.mem_append] at hp ⊢
        grind
      · rw [List.size_toArray, List.length_reverse, Array.length_toList, hws1]
      · obtain ⟨t9, ht9⟩ := hws.2 (l.length - 1 - p) (by omega)
        refine ⟨t9, ?_⟩
        rw [show l.length - 1 - (l.length - 1 - p) = p by omega] at ht9
        rw [List.getElem?_toArray, List.getElem?_reverse (by rw [Array.length_toList]; omega), Array.length_toList, hws1, Array.getElem?_toList]
        exact ht9
      · rcases List.mem_append.mp hp with hp | hp
        · exact List.mem_append_left _ hp
        · exact List.mem_append_right _ (List.mem_append_right _ hp)
@[irreducible] noncomputable def eb : Heap × Addr × Obj × Addr × Addr × Tok × Tok × Addr × WS × Nat × Tok × (Str → Option Value) × Addr × Heap × Nat × Obj := worst (hp0, 0, default, 0, 0, 0, 0, 0, (⟨#[], 0, #[], 0, [], []⟩), 0, 0, (fun _ => none), 0, hp0, 0, default) fun e => sa.1 e.1 e.2.1 e.2.2.1 e.2.2.2.1 e.2.2.2.2.1 e.2.2.2.2.2.1 e.2.2.2.2.2.2.1 e.2.2.2.2.2.2.2.1 e.2.2.2.2.2.2.2.2.1 e.2.2.2.2.2.2.2.2.2.1 e.2.2.2.2.2.2.2.2.2.2.1 e.2.2.2.2.2.2.2.2.2.2.2.1 e.2.2.2.2.2.2.2.2.2.2.2.2.1 e.2.2.2.2.2.2.2.2.2.2.2.2.2.1 e.2.2.2.2.2.2.2.2.2.2.2.2.2.2.1 e.2.2.2.2.2.2.2.2.2.2.2.2.2.2.2
@[irreducible] noncomputable def g' : Heap := eb.1
@[irreducible] noncomputable def L' : Addr := eb.2.1
@[irreducible] noncomputable def o : Obj := eb.2.2.1
@[irreducible] noncomputable def x1 : Addr := eb.2.2.2.1
@[irreducible] noncomputable def dx1 : Addr := eb.2.2.2.2.1
@[irreducible] noncomputable def tkd : Tok := eb.2.2.2.2.2.1
@[irreducible] noncomputable def td : Tok := eb.2.2.2.2.2.2.1
@[irreducible] noncomputable def lw : Addr := eb.2.2.2.2.2.2.2.1
@[irreducible] noncomputable def c : WS := eb.2.2.2.2.2.2.2.2.1
@[irreducible] noncomputable def i : Nat := eb.2.2.2.2.2.2.2.2.2.1
@[irreducible] noncomputable def ti : Tok := eb.2.2.2.2.2.2.2.2.2.2.1
@[irreducible] noncomputable def u : Str → Option Value := eb.2.2.2.2.2.2.2.2.2.2.2.1
@[irreducible] noncomputable def I : Addr := eb.2.2.2.2.2.2.2.2.2.2.2.2.1
@[irreducible] noncomputable def h : Heap := eb.2.2.2.2.2.2.2.2.2.2.2.2.2.1
@[irreducible] noncomputable def tk : Nat := eb.2.2.2.2.2.2.2.2.2.2.2.2.2.2.1
@[irreducible] noncomputable def o' : Obj := eb.2.2.2.2.2.2.2.2.2.2.2.2.2.2.2
set_option maxHeartbeats 16000000 in
theorem sb : sa.1 g' L' o x1 dx1 tkd td lw c i ti u I h tk o' := by
  unfold sa
  dsimp only
  intro hT hn168 hx hkw hw B F X N T hk hdp hun hret FG' B' X' T' l1 hl1 hoff hlt lt3 d2 hi hI hFc hPc F7 N7
  have hnx : ∀ p ∈ news, p.1 ≠ x1 := fun p hp => hoff p (.tail _ (List.mem_append_right _ hp)) _ (.head _)
  have hnl : ∀ p ∈ news, p.1 ≠ lw := fun p hp => allLt_off lt3.2.2.2 p (List.mem_append_right _ hp)
  obtain ⟨hP, htabs, htups⟩ := hFc
  obtain ⟨hstk, hws⟩ := hPc
  obtain ⟨q, hq, hqn⟩ : ∃ q : Nat, (l.length : Int) - 1 + i * -1 = (q : Int) ∧ q = l.length - 1 - i := ⟨l.length - 1 - i, by omega, rfl⟩
  rw [hq] at F7
  have hne := hI _ (.head _)
  have N8 := N7
  clear N7
  have N7 : News g' L' h ((x1, shelfObj dx1 c.its c.n) :: (dx1, sizeDict w.params tkd td) :: (lw, listOf c.ws c.wn) :: (I, o') :: (L' + 1, o) :: (c.tabs ++ (c.tups ++ news))) := fun p hp => N8 p (by simp only [List.mem_cons] at hp ⊢; grind)
  clear N8
  k_steps
  unfold Hold
  rename Fr g' L' _ _ => F8
  rename News g' L' _ _ => N8
  refine kla_eval rfl ?_
  k_dflt refine lam_make (pre := [_, _, _, _, _]) (tabs := c.tabs) (post := c.tups ++ news) F8 N8 T' (code172 X') hP ?z1 ?z2 rfl ?_
  case z1 =>
    obtain ⟨o1, ho1⟩ := hT.has
    obtain ⟨o2, ho2⟩ := hP.has
    refine List.forall_mem_cons.mpr ⟨?_, List.forall_mem_cons.mpr ⟨?_, List.forall_mem_cons.mpr ⟨?_, List.forall_mem_cons.mpr ⟨?_, List.forall_mem_cons.mpr ⟨?_, List.forall_mem_nil _⟩⟩⟩⟩⟩
    · exact (hoff _ (.tail _ (List.mem_append_left _ ho1)) _ (.head _)).symm
    · exact (hoff _ (.tail _ (List.mem_append_left _ ho1)) _ (.tail _ (.head _))).symm
    · exact (allLt_off lt3.2.2.2 _ (List.mem_append_left _ ho1)).symm
    · exact (hI _ (.tail _ (.tail _ (.tail _ (.tail _ (List.mem_append_left _ ho2)))))).symm
    · exact Nat.ne_of_gt (Nat.lt_succ_of_lt (hl1 _ (List.mem_append_left _ ho1)))
  case z2 =>
    intro p hp
    rcases List.mem_append.mp hp with hp | hp
    · exact (htups p hp).1
    · exact hn168 p hp
  intro f c' oc vs tq ctv tabs' h' tk' F9 N9 hT' hco hcd hcv hlf hfr
  clear F8 N8
  k_steps
  generalize hfo : kla_obj _ _ _ _ _ _ _ _ _ = fo at N9
  have N10 : News g' L' h' ((x1, shelfObj dx1 c.its c.n) :: (dx1, sizeDict w.params tkd td) :: (f, fo) :: (lw, listOf c.ws c.wn) :: (I, o') :: (L' + 1, o) :: (tabs' ++ (c.tups ++ news))) := fun p hp => N9 p (by simp only [List.mem_cons, List.mem_append] at hp ⊢; grind)
  clear N9
  have hkey : ∀ (T : Addr) (u v : List Nat) (t1 t2 : Tok), (T, tupOf #[.str (S u) t1, .str (S v) t2]) ∈ c.tups → u.length + v.length ≤ 200 →
      Claim w f 10 ((x1, shelfObj dx1 c.its c.n) :: (dx1, sizeDict w.params tkd td) :: (f, fo) :: (lw, listOf c.ws c.wn) :: (I, o') :: (L' + 1, o) :: (tabs' ++ (c.tups ++ news))) [.ref T] (fun r n' => n' = (x1, shelfObj dx1 c.its c.n) :: (dx1, sizeDict w.params tkd td) :: (f, fo) :: (lw, listOf c.ws c.wn) :: (I, o') :: (L' + 1, o) :: (tabs' ++ (c.tups ++ news)) ∧ ∃ t, r = .str (S (g (u ++ v))) t) := by
    intro T u v t1 t2 hTm huv
    have hTm9 : (T, tupOf #[.str (S u) t1, .str (S v) t2]) ∈ ((x1, shelfObj dx1 c.its c.n) :: (dx1, sizeDict w.params tkd td) :: (f, fo) :: (lw, listOf c.ws c.wn) :: (I, o') :: (L' + 1, o) :: (tabs' ++ (c.tups ++ news))) := by
      simp only [List.mem_cons, List.mem_append]
      exact .inr (.inr (.inr (.inr (.inr (.inr (.inr (.inl hTm)))))))
    clear N10 F9 hret B' X' T' FG' N hI
    unfold Claim
    intro p loose mean mg mb dp un gd cn cs a ccd cl outer A₀ base h₀ L m s Q E B F X N Tp hk hdp hun hret
    refine wpAny_call ?_
    subst hfo
    k_dflt (refine' kla_code ?k1 ?k2 ?k3 ?k4 ?k5 ?kA ?kF ?kK ?k6 ?k7 ?k8 ?k9 ?kB ?_ ?c2 ?c3 ?c4 ?c5)
    case kA => exact rfl
    case kF => exact rfl
    case kK => assumption
    case k1 => k_asm
    case k2 => k_asm
    case k3 => k_asm
    case k4 => k_asm
    case k5 => k_asm
    case k6 => k_mem
    case k7 => exact codeRec_news (by k_asm) (List.mem_cons_of_mem _ (List.mem_cons_of_mem _ (List.mem_cons_of_mem _ (List.mem_cons_of_mem _ (List.mem_cons_of_mem _ (List.mem_cons_of_mem _ (List.mem_append_left _ hco))))))) (by assumption) (by assumption)
    case k8 => ktr_room
    case k9 => exact rfl
    case c5 => decide
    case kB => exact locs rfl
    case c2 => exact rfl
    case c3 => exact rfl
    case c4 => exact rfl
    k_whole
    intro g' L' h' FG' F' N' B' X' T'
    (try dsimp only)
    k_steps
    exact hret _ _ _ _ (by k_asm) (by k_asm) ⟨rfl, _, rfl⟩
  have hch := chain_ok (ltOf_tr g l) l.length i (Nat.le_of_lt hi)
  have hcl := chain_len (ltOf g l) l.length i
  have hsz : c.its.size = (chainAt (ltOf g l) l.length i).length := by
    have := hstk.len
    rwa [List.length_reverse, Array.length_toList] at this
  unfold Hold
  k_dflt refine bisect_claim w _ x1 dx1 f _ c.its c.n (by omega) (g (l.drop q)) _ _ _ ((chainAt (ltOf g l) l.length i).reverse.map fun q => g (l.drop q)) (by rw [List.length_map, List.length_reverse, hsz]) (fun a b hab hb => keys_sorted hch.down hab (by omega)) ?y1 ?y2 cx.p cx.loose cx.mean cx.mg cx.mb _ _ _ _ _ _ _ _ _ _ _ _ _ _ _ _ _ B' F9 X' N10 T' rfl ?y3 ?y4 ?_
  case y1 =>
    intro j v hv
    obtain ⟨T, u, w', t1, t2, rfl, hm, huw, hle⟩ := hstk.keys (fun q hq => (hch.bnd q hq).2) hch.up hv
    have hk9 := hkey T u w' t1 t2 hm (by omega)
    have hj : j < c.its.size := (Array.getElem?_eq_some_iff.mp hv).1
    rw [map_getD g l _ j (by rw [List.length_reverse]; omega), ← huw]
    exact hk9
  case y2 =>
    intro h₀ L h N
    subst hfo
    exact FnAt.of N (.tail _ (.tail _ (.head _)))
  case y3 => (dsimp only [ktrTop]; omega)
  case y4 => (dsimp only [ktrTop]; omega)
  rintro v news' h' tk' F11 N11 ⟨rfl, r, tr, rfl, hr1, hr2, hr3⟩
  clear F9 N10
  k_steps
  unfold Hold
  have hfx : ∀ p ∈ (f, fo) :: (lw, listOf c.ws c.wn) :: (I, o') :: (L' + 1, o) :: (tabs' ++ (c.tups ++ news)), p.1 ≠ x1 := by
    have hx1 := hlf _ (.head _)
    refine List.forall_mem_cons.mpr ⟨Nat.ne_of_gt hx1, List.forall_mem_cons.mpr ⟨Nat.ne_of_gt lt3.1, List.forall_mem_cons.mpr ⟨Ne.symm (hI _ (.head _)), List.forall_mem_cons.mpr ⟨hoff _ (.head _) _ (.head _), fun p hp => ?_⟩⟩⟩⟩
    rcases List.mem_append.mp hp with hp | hp
    · exact hfr x1 (fun q hq => (htabs q hq).1) ⟨_, .head _, rfl⟩ p hp
    · rcases List.mem_append.mp hp with hp | hp
      · exact (htups p hp).2.1
      · exact hnx p hp
  rename Fr g' L' _ _ => F12
  rename News g' L' _ _ => N12
  k_dflt refine claim_use (pop_claim w _ x1 dx1 hlt c.its (by omega) c.n _ hfx r hr1 _) B' F12 X' N12 T' rfl ?y5 ?y6 ?_
  case y5 => (dsimp only [ktrTop]; omega)
  case y6 => (dsimp only [ktrTop]; omega)
  rintro v news' h' tk' F13 N13 ⟨D, n', rfl, rfl, hD1, hD2⟩
  clear F12 N12
  k_steps
  unfold Hold
  rename Fr g' L' _ _ => F14
  rename News g' L' _ _ => N14
  rename_i D2 h14 l14
  have hlen : c.its.toList.length = (chainAt (ltOf g l) l.length i).length := by rw [Array.length_toList, hsz]
  have hwe : wordEnd (ltOf g l) l.length i = ((chainAt (ltOf g l) l.length i).drop ((chainAt (ltOf g l) l.length i).length - r)).headD l.length := by
    unfold wordEnd
    rw [← hqn, cut_drop (by omega) hr2 (fun j h1 h2 => hr3 j h1 (by omega))]
  generalize hch0 : chainAt (ltOf g l) l.length i = ch at *
  refine gen_list (σ := List Nat × Tok) (vs := ((c.its.toList.drop r).toArray.toList.reverse).toArray) (nn := 0) (fun _ => (D2, listOf ((c.its.toList.drop r).toArray.toList.reverse).toArray 0) :: (D, listOf (c.its.toList.drop r).toArray 0) :: (x1, shelfObj dx1 (c.its.extract 0 r) n') :: (dx1, sizeDict w.params tkd td) :: (f, fo) :: (lw, listOf c.ws c.wn) :: (I, o') :: (L' + 1, o) :: (tabs' ++ (c.tups ++ news))) (fun c' => [(Str.ofString "word", Value.str (S c'.1) c'.2)]) (fun _ => True) ["word"]
    (fun j c' => c'.1 = (l.drop q).take ((ch.drop j).headD l.length - q)) (_, _) rfl (fun _ => .head _) F14 N14 trivial (List.forall_mem_cons.mpr ⟨rfl, List.forall_mem_nil _⟩) ?_ ?_ ?_
  · show [l.getD q 0] = _
    rw [List.drop_zero, hch.head, show l.length - i - q = 1 by omega]
    exact take_one l (by omega)
  · rintro ⟨cw, ct⟩ j v u' I2 h2 tk2 o2 hv hI2 _ hc' F15 N15
    clear F14 N14
    dsimp only at F15 N15 hc'
    obtain ⟨hj, hv'⟩ := popped_get hv
    obtain ⟨T, t1, t2, hTv, hTm⟩ := hstk.get j (by rw [List.length_reverse]; omega)
    cases hv'.symm.trans hTv
    have hup := up_le j (fun q hq => (hch.bnd q hq).2) hch.up (by omega)
    have hlast := hch.bnd _ (List.getElem_mem (h := show j < ch.length by omega))
    have hgd : ch.getD j 0 = (ch.drop j).headD l.length := by
      rw [List.drop_eq_getElem_cons (by omega)]
      simp [show j < ch.length by omega]
    have hgd2 : ch.getD j 0 = ch[j]'(by omega) := by simp [show j < ch.length by omega]
    rw [← hgd] at hc'
    generalize hpw : (l.drop (ch.getD j 0)).take ((ch.drop (j + 1)).headD l.length - ch.getD j 0) = pw at hTm
    have hcl9 : cw.length ≤ 9 := by rw [hc', List.length_take, List.length_drop]; omega
    have hpw9 : pw.length ≤ 9 := by rw [← hpw, List.length_take, List.length_drop]; omega
    have hTm9 := List.mem_cons_of_mem (I2, o2) (List.mem_cons_of_mem (D2, listOf ((c.its.toList.drop r).toArray.toList.reverse).toArray 0) (List.mem_cons_of_mem (D, listOf (c.its.toList.drop r).toArray 0) (List.mem_cons_of_mem (x1, shelfObj dx1 (c.its.extract 0 r) n') (List.mem_cons_of_mem (dx1, sizeDict w.params tkd td) (List.mem_cons_of_mem (f, fo) (List.mem_cons_of_mem (lw, listOf c.ws c.wn) (List.mem_cons_of_mem (I, o') (List.mem_cons_of_mem (L' + 1, o) (List.mem_append_right tabs' (List.mem_append_left news hTm))))))))))
    k_steps
    rename Fr g' L' _ _ => F16
    rename News g' L' _ _ => N16
    show GenEnd _ _ _ _ _ _ _
    refine gen_end (cw ++ pw, _) F16 N16 (.head _) (fun p hp => .tail _ hp) hI2 trivial (List.forall_mem_cons.mpr ⟨rfl, List.forall_mem_nil _⟩) ?_ ?_
    · intro z h1 h2 h3
      have hz : z ≠ Str.ofString "word" := h2 _ (.head _)
      simp only [kstB, if_neg hz, if_neg h1, h3, Bool.false_eq_true, if_false]
    · show cw ++ pw = _
      rw [hc', ← hpw]
      exact cat_two l (by omega) hup
  · rintro ⟨cw, ct⟩ u' h2 tk2 _ hc' F15 N15
    clear F14 N14
    dsimp only at F15 N15 hc'
    rw [popped_size, hlen, ← hwe] at hc'
    have hcl9 : cw.length ≤ 9 := by rw [hc', List.length_take, List.length_drop]; omega
    have hE : q < wordEnd (ltOf g l) l.length i ∧ wordEnd (ltOf g l) l.length i ≤ l.length := by
      rw [hwe]
      cases hdr : ch.drop (ch.length - r) with
      | nil => exact ⟨by show q < l.length; omega, Nat.le_refl _⟩
      | cons b r' =>
        have hb := hch.bnd b (List.mem_of_mem_drop (hdr ▸ List.mem_cons_self ..))
        exact ⟨by show q < b; omega, by show b ≤ _; omega⟩
    have hcwl : cw.length = wordEnd (ltOf g l) l.length i - q := by rw [hc', List.length_take, List.length_drop]; omega
    have hlast9 : q + cw.length ≤ l.length := by omega
    k_steps
    unfold Hold
    rename Fr g' L' _ _ => F17
    rename News g' L' _ _ => N17
    k_dflt refine claim_use (push_claim w ((lw, listOf c.ws c.wn) :: (I, o') :: (L' + 1, o) :: (tabs' ++ (c.tups ++ news))) x1 dx1 hlt (c.its.extract 0 r) (by rw [Array.size_extract]; omega) n' (sizeDict w.params tkd td) rfl (fun p hp => hfx p (.tail _ hp)) _ _ _ _) B' F17 X' ?y7 T' rfl ?y8 ?y9 ?_
    case y7 => exact fun p hp => N17 p (by simp only [List.mem_cons] at hp ⊢; grind)
    case y8 => (dsimp only [ktrTop]; omega)
    case y9 => (dsimp only [ktrTop]; omega)
    rintro v news' h' tk' F18 N18 ⟨T, n2, hnn, hT1, hT2⟩
    generalize hto : tupOf _ = to at hnn
    subst hnn
    rw [show ((q : Int) + (cw.length : Int)).toNat = wordEnd (ltOf g l) l.length i by omega] at hto
    obtain ⟨t9, hto2⟩ : ∃ t2, to = tupOf #[.str (S cw) ct, .str (S (l.drop (wordEnd (ltOf g l) l.length i))) t2] := ⟨_, hto.symm⟩
    clear F17 N17
    k_steps
    unfold Hold
    rename Fr g' L' _ _ => F19
    rename News g' L' _ _ => N19
    have hlwT := hT1 _ (.head _)
    have hoffl : ∀ p ∈ (I, o') :: (L' + 1, o) :: (tabs' ++ (c.tups ++ news)), p.1 ≠ lw := by
      refine List.forall_mem_cons.mpr ⟨Ne.symm (hI _ (.tail _ (.tail _ (.head _)))), List.forall_mem_cons.mpr ⟨Nat.ne_of_lt lt3.2.2.1, fun p hp => ?_⟩⟩
      rcases List.mem_append.mp hp with hp | hp
      · exact hfr lw (fun q hq => (htabs q hq).2) ⟨_, .tail _ (.tail _ (.head _)), rfl⟩ p hp
      · rcases List.mem_append.mp hp with hp | hp
        · exact (htups p hp).2.2
        · exact hnl p hp
    k_dflt refine append_K F19 N19 (.tail (Nat.ne_of_gt hlwT) (.tail (Nat.ne_of_lt lt3.1) (.tail (Nat.ne_of_lt lt3.2.1) (.head hoffl)))) ?_ (by rw [sizeLine_eq, hws.1]; omega)
    intro h20 F20 N20
    clear F19 N19
    k_steps
    rename Fr g' L' _ _ => F21
    rename News g' L' _ _ => N21
    show GenEnd _ _ _ _ _ _ _
    have hTneg : T ≠ 168 := by
      obtain ⟨o3, ho3⟩ := hT'.has
      exact Nat.ne_of_gt (hT1 _ (.tail _ (.tail _ (.tail _ (List.mem_append_left _ ho3)))))
    have hTI := hT1 _ (.tail _ (.head _))
    have htabI : ∀ p ∈ tabs', p.1 ≠ I := hfr I (fun q hq => hI q (.tail _ (.tail _ (.tail _ (.tail _ (List.mem_append_left _ hq)))))) ⟨_, .tail _ (.tail _ (.tail _ (.head _))), rfl⟩
    refine gen_end ⟨(c.its.extract 0 r).push (.ref T), n2, c.ws.push (.str (S cw) ct), c.wn + 1, tabs', (T, to) :: c.tups⟩ F21 N21 (.tail _ (.tail _ (.tail _ (.tail _ (.head _))))) ?_ ?_ ⟨hT', ?_, ?_⟩ (List.forall_mem_nil _) ?_ ⟨?_, ?_⟩
    · intro p hp
      simp only [List.mem_cons, List.mem_append] at hp ⊢
      grind
    · intro p hp
      rcases List.mem_cons.mp hp with rfl | hp
      · exact hI (x1, shelfObj dx1 c.its c.n) (.head _)
      · rcases List.mem_cons.mp hp with rfl | hp
        · exact hI _ (.tail _ (.head _))
        · rcases List.mem_cons.mp hp with rfl | hp
          · exact hI (lw, listOf c.ws c.wn) (.tail _ (.tail _ (.head _)))
          · rcases List.mem_cons.mp hp with rfl | hp
            · exact hI _ (.tail _ (.tail _ (.tail _ (.head _))))
            · rcases List.mem_append.mp hp with hp | hp
              · exact htabI p hp
              · rcases List.mem_append.mp hp with hp | hp
                · rcases List.mem_cons.mp hp with rfl | hp
                  · exact Nat.ne_of_gt hTI
                  · exact hI _ (.tail _ (.tail _ (.tail _ (.tail _ (List.mem_append_right _ (List.mem_append_left _ hp))))))
                · exact hI _ (.tail _ (.tail _ (.tail _ (.tail _ (List.mem_append_right _ (List.mem_append_right _ hp))))))
    · intro p hp
      exact ⟨hfx p (.tail _ (.tail _ (.tail _ (.tail _ (List.mem_append_left _ hp))))), hoffl p (.tail _ (.tail _ (List.mem_append_left _ hp)))⟩
    · intro p hp
      rcases List.mem_cons.mp hp with rfl | hp
      · exact ⟨hTneg, Nat.ne_of_gt hT2, Nat.ne_of_gt hlwT⟩
      · exact htups p hp
    · intro z h1 h2 h3
      have hz1 : z ≠ Str.ofString "k" := by intro e; subst e; revert h3; decide
      have hz2 : z ≠ Str.ofString "word" := by intro e; subst e; revert h3; decide
      have hz3 : z ≠ Str.ofString "piece" := by intro e; subst e; revert h3; decide
      simp [kstB, hz1, hz2, hz3, h1, h3]
    · show Stk l _ ((c.its.extract 0 r).push (.ref T)).toList.reverse (chainAt (ltOf g l) l.length (i + 1))
      have e1 : ((c.its.extract 0 r).push (Value.ref T)).toList.reverse = .ref T :: c.its.toList.reverse.drop (c.its.toList.length - r) := by
        rw [Array.toList_push, List.reverse_append, rest_rev]; rfl
      have e2 : chainAt (ltOf g l) l.length (i + 1) = q :: ch.drop (ch.length - r) := by
        show (l.length - 1 - i) :: (chainAt (ltOf g l) l.length i).dropWhile _ = _
        rw [hch0, ← hqn, cut_drop (by omega) hr2 (fun j h1 h2 => hr3 j h1 (by omega))]
      rw [e1, e2, hlen]
      refine ⟨⟨T, ct, t9, rfl, ?_⟩, (hstk.drop _).mono fun p hp => .tail _ hp⟩
      rw [← hwe, ← hc', hto2]
      exact .head _
    · refine ⟨by rw [Array.size_push, hws.1], fun j hj => ?_⟩
      by_cases hji : j < i
      · obtain ⟨t', ht'⟩ := hws.2 j hji
        exact ⟨t', (getElem?_of_push (by rw [hws.1]; exact hji)).trans ht'⟩
      · have : j = i := by omega
        subst this
        refine ⟨ct, ?_⟩
        rw [← hqn, ← hc']
        show (c.ws.push (Value.str (S cw) ct))[i]? = _
        rw [← hws.1]
        simp
end WoN
theorem words_claim (w : World) (tabs news : List (Addr × Obj)) (hT : TabSt tabs) (hn168 : ∀ p ∈ news, p.1 ≠ 168) (l : List Nat) (hx : l.length ≤ 9) (t : Tok) (wr : Addr) (g : List Nat → List Nat) (hkw : keepIn (hd.heap_1 w.params) (.ref wr) = true) (hw : ∀ news (x : List Nat) t, x.length ≤ 200 → Claim w wr 4 news [.str (S x) t] (fun v news' => news' = news ∧ ∃ t, v = .str (S (g x)) t)) :
    Claim w 173 20 (tabs ++ news) [.str (S l) t, .ref wr] (fun v news' => Hold (∃ W vals tabs', v = .ref W ∧ news' = (W, listOf vals 0) :: (tabs' ++ news) ∧ TabSt tabs' ∧ WordsAre (ltOf g l) l vals ∧ ∀ p ∈ tabs' ++ news, @LT.lt Nat _ p.1 W)) :=
  claim_of fun c => of_worst (P := fun e => WordsP e.1 e.2.1 e.2.2.1 e.2.2.2.1 e.2.2.2.2.1 e.2.2.2.2.2.1 e.2.2.2.2.2.2.1 e.2.2.2.2.2.2.2) (c := WoN.ea) (by with_unfolding_all rfl) (by with_unfolding_all exact WoN.sa.2 (.mk fun a0_0 a0_1 a0_2 a0_3 a0_4 a0_5 a0_6 a0_7 a0_8 a0_9 a0_10 a0_11 a0_12 a0_13 a0_14 a0_15 => of_worst (P := fun e => WoN.sa.1 e.1 e.2.1 e.2.2.1 e.2.2.2.1 e.2.2.2.2.1 e.2.2.2.2.2.1 e.2.2.2.2.2.2.1 e.2.2.2.2.2.2.2.1 e.2.2.2.2.2.2.2.2.1 e.2.2.2.2.2.2.2.2.2.1 e.2.2.2.2.2.2.2.2.2.2.1 e.2.2.2.2.2.2.2.2.2.2.2.1 e.2.2.2.2.2.2.2.2.2.2.2.2.1 e.2.2.2.2.2.2.2.2.2.2.2.2.2.1 e.2.2.2.2.2.2.2.2.2.2.2.2.2.2.1 e.2.2.2.2.2.2.2.2.2.2.2.2.2.2.2) (c := WoN.eb) (by with_unfolding_all rfl) (by with_unfolding_all exact WoN.sb) (a0_0, a0_1, a0_2, a0_3, a0_4, a0_5, a0_6, a0_7, a0_8, a0_9, a0_10, a0_11, a0_12, a0_13, a0_14, a0_15))) (w, tabs, news, l, t, wr, g, c) hT hn168 hx hkw hw
end Mine
end

section
open PySem PySem.W PyProof.Rows
open Sem (wp)
set_option maxRecDepth 100000
namespace Mine
section
variable {M : Model} {A : Around} {E : Value → Shared → Prop} {s : Shared} {K : Frag} {env : Env} {pos : Pos} {f : Value} {first : List Value} {Q : Value → Shared → Prop}
theorem wpC_Call_Name {x : Str} {p pos : Pos} {args : List Expr} {trees : List (Bool × Sem Value)} {Q : Value → Shared → Prop} (ht : backTo pos (starEach args env) = trees)
    (h : wpAny M A (eval (.Name x p) env) (fun f s₁ => wpC M A (callWith pos f [] trees []) Q E s₁) E s) : wpC M A (eval (.Call (.Name x p) args [] pos) env) Q E s := by
  subst ht
  exact wpC_bind (wpC_of h)
theorem callWithC_of {P : Heap → Prop} {args : List (Bool × Sem Value)} (hplain : (args.any (·.1) || false) = false)
    (hk : ∀ h, P h → ∃ k, (k = Keeper.frame ∨ k = Keeper.machine ∨ k = Keeper.boundFrame) ∧ Looks M h (keeperOf f) k)
    (h : wpAny M A (evalArgs f true args []) (fun a s₁ => P s₁.heap ∧ wpC M A (call f (first ++ a.pos) a.kw) Q E s₁) E s) : wpC M A (callWith pos f first args []) Q E s := by
  unfold callWith
  refine wpC_bind (wpC_holding (wpC_of (wpAny_mono h (fun a s₁ h₁ => wpC_bind (wpC_of (wpAny_standAt ?_))) fun _ _ x => x)))
  obtain ⟨k, hk', L⟩ := hk _ h₁.1
  simp only [hplain, List.any_nil]
  refine wpC_bind (wpC_of (L.here ?_))
  have tail : ∀ {t : Sem Value}, wpC M A t Q E s₁ → wpC M A (t >>= fun r => holding [r] point >>= fun _ => pure r) Q E s₁ :=
    fun ht => wpC_bind (wpC_mono ht (fun r s₂ hr => wpC_bind (wpC_of (wpAny_holding (wpAny_point (wpC_pure hr))))) fun _ _ x => x)
  have marked (mk : Value) : wpC M A (callMarked mk f (first ++ a.pos) a.kw) Q E s₁ := by unfold callMarked; exact wpC_keep h₁.2
  rcases hk' with rfl | rfl | rfl <;> dsimp only <;> first | exact tail h₁.2 | (split <;> first | exact tail h₁.2 | exact tail (marked _))
theorem callWithC_type {T : String} {args : List (Bool × Sem Value)} (hplain : args.any (·.1) = false)
    (h : wpAny M A (evalArgs (.type T) true args []) (fun a s₁ => wpC M A (call (.type T) (first ++ a.pos) a.kw) Q E s₁) E s) : wpC M A (callWith pos (.type T) first args []) Q E s := by
  unfold callWith
  refine wpC_bind (wpC_holding (wpC_of (wpAny_mono h (fun a s₁ h₁ => wpC_bind (wpC_of (wpAny_standAt ?_))) fun _ _ x => x)))
  simp only [hplain, List.any_nil, Bool.or_false]
  refine wpC_bind (wpC_of (wpAny_pure ?_))
  exact wpC_bind (wpC_mono h₁ (fun r s₂ hr => wpC_bind (wpC_of (wpAny_holding (wpAny_point (wpC_pure hr))))) fun _ _ x => x)
end
section
variable {prog : Program} {w : World} {A₀ A : Around} {s : Shared} {K : Frag} {base h₀ : Heap} {outer : List Env} {L : Addr} {m mg mb : Str → Option Value} {env : Env} {news : List (Addr × Obj)} {p : Program} {loose : List Str} {mean : ExcName → Option Value}
  {R : Result → Shared → Prop} {name qual : Str} {params : Arguments} {body : List Stmt} {scope : Scope} {dV kV doc pm cdv ct oc : Value} {an od : Option Addr} {osl : Array (Option Value)} {f : Addr} {args : Args} {binds : List (Str × Value)}
theorem codeC_def (B : Below A₀ base outer h₀) (F : Fr h₀ L s.heap m) (X₀ : K.In h₀) (N : News h₀ L s.heap news) (T : Top p loose mean mg mb h₀) (hA : A.frames = some (env :: outer)) (hf : env.frame = some L) (hke : env.scope.kind = .function)
    (ho : K.lookup f = some ⟨oc, od, .func (fnOf name qual params body scope dV kV doc pm an cdv ct), osl⟩) (hcd : codeIn K cdv qual = true) (hroom : A.depth < recursionLimit)
    (hbind : BindsTo s (fnOf name qual params body scope dV kV doc pm an cdv ct) args binds) (hloc : ∀ y ∈ binds, scope.names.lookup y.1 = some .local)
    (h : ∀ g L' h₁, Fr h₀ L g m → Fr g L' h₁ (fun y => binds.reverse.lookup y) → News g L' h₁ news → Below A base (env :: outer) g → K.In g → Top p loose mean mg mb g →
      wpC (model prog w) (A.deeper (envOf qual scope L' f cdv)) (execs body (envOf qual scope L' f cdv))
        (fun fl s' => LeaveK h₀ L m g R (match fl with | .ret v => v | _ => .none) s')
        (fun e s' => wpAny (model prog w) (A.deeper (envOf qual scope L' f cdv)) (leaving (envOf qual scope L' f cdv) e) (fun _ s'' => R (.error e) s'') (fun e' s'' => R (.error e') s'') s')
        { s with heap := h₁, toks := s.toks + binds.length })
    (hco : scope.isCoroutine = false) (hgen : scope.isGenerator = false) (hk : scope.kind = .function)
    (hcell : ∀ x ∈ scope.names, x.2 ≠ .cell) : codeC (model prog w) A (.call (.ref f) args) R s := by
  obtain ⟨FG, BG, st, lv⟩ := groundX (R := R) B F N hA hf hke
  have hX := X₀.keeps F.keep
  refine codeC_call_def (fd := fnOf name qual params body scope dV kV doc pm an cdv ct) (body := body) (binds := binds) hroom (hX _ _ ho) rfl (T.nolimit.keeps F.keep) (codeRec_of hX hcd) rfl hbind hcell hloc (fun h₁ hns hk₁ => ?_) hco hgen hk
  exact wpC_mono (h _ s.heap.objs.size h₁ FG ⟨hns, fun b o e => hk₁ b o (of_hideAll _ e), Nat.le_of_eq (hideAll_size _ _)⟩
    (fun p hp => ⟨hk₁ _ _ (N p hp).1, Nat.ne_of_lt (Heap.lt_size (N p hp).1), hideAll_none _ (List.mem_map_of_mem hp)⟩) BG (X₀.keeps st) (T.keeps st)) (fun fl s' hl => lv _ _ hl) fun _ _ y => y
end
end Mine
namespace Mine
section
variable {M : Model} {A : Around} {E : Value → Shared → Prop} {s : Shared} {K : Frag} {env : Env} {pos : Pos} {f : Value} {first : List Value} {Q : Value → Shared → Prop}
theorem callWithC_T {T : String} {e : Expr} {rest : List Expr} (h : wpAny M A (spliced (backTo pos (starEach (e :: rest) env))) (fun vs s₁ => wpC M A (call (.type T) (first ++ vs)) Q E s₁) E s)
    (he : starEach (e :: rest) env = (false, eval e env) :: starEach rest env := by rfl) (hplain : (backTo pos (starEach rest env)).any (·.1) = false := by rfl) :
    wpC M A (callWith pos (.type T) first (backTo pos (starEach (e :: rest) env)) []) Q E s := by
  rw [he] at h ⊢
  exact callWithC_type (by show (false || (backTo pos (starEach rest env)).any (·.1)) = false; rw [hplain]; rfl) (Calls.evalArgs_plain h)
theorem callWithC_K {h₀ : Heap} {e : Expr} {rest : List Expr} (_X : K.In h₀) (hk : keepIn K f = true) (h : wpAny M A (spliced (backTo pos (starEach (e :: rest) env))) (fun vs s₁ => K.In s₁.heap ∧ wpC M A (call f (first ++ vs)) Q E s₁) E s)
    (he : starEach (e :: rest) env = (false, eval e env) :: starEach rest env := by rfl) (hplain : (backTo pos (starEach rest env)).any (·.1) = false := by rfl) :
    wpC M A (callWith pos f first (backTo pos (starEach (e :: rest) env)) []) Q E s := by
  rw [he] at h ⊢
  exact callWithC_of (by show ((false || (backTo pos (starEach rest env)).any (·.1)) || false) = false; rw [hplain]; rfl) (keeps_K hk) (Calls.evalArgs_plain h)
end
end Mine
end

section
open PySem PySem.W PyProof.Rows
open Sem (wp)
set_option maxRecDepth 100000
namespace Mine
namespace BA
theorem mro : mroOf (.type "bytearray") = pure [.type "bytearray", .type "object"] := by rw [mroOf_type]; kernel_rfl
theorem lookup_new : typeLookup (.type "bytearray") "__new__" = pure (some (.builtin "bytearray.__new__")) := by rw [typeLookup_type, builtinLookup_eq_fast]; kernel_rfl
theorem slot_init : Slot "bytearray" "__init__" "bytearray.__init__" :=
  .of (owner := "bytearray") (n := "__init__") (by rw [typeLookup_type, builtinLookup_eq_fast]; kernel_rfl) (by decide +kernel) (by decide +kernel) (by decide +kernel)
    (by first | exact .inl (by decide +kernel) | exact .inr (by decide +kernel)) (by rw [isSubtype_type]; kernel_rfl)
theorem slot_setitem : Slot "bytearray" "__setitem__" "bytearray.__setitem__" :=
  .of (owner := "bytearray") (n := "__setitem__") (by rw [typeLookup_type, builtinLookup_eq_fast]; kernel_rfl) (by decide +kernel) (by decide +kernel) (by decide +kernel)
    (by first | exact .inl (by decide +kernel) | exact .inr (by decide +kernel)) (by rw [isSubtype_type]; kernel_rfl)
theorem lookup_release : typeLookup (.type "bytearray") "__release_buffer__" = pure (some (.builtin "bytearray.__release_buffer__")) := by rw [typeLookup_type, builtinLookup_eq_fast]; kernel_rfl
theorem sub_release : isSubtype (.type "bytearray") (.type ("bytearray.__release_buffer__".dropRight ("__release_buffer__".length + 1))) = pure true := by
  have e : "bytearray.__release_buffer__".dropRight ("__release_buffer__".length + 1) = "bytearray" := by decide +kernel
  rw [e, isSubtype_type]; kernel_rfl
theorem entry_setitem : entryFor table "bytearray.__setitem__" = some Builtin.«bytearray.__setitem__» := entryFor_of_tree (by kernel_rfl)
theorem called : TypeCalled "bytearray" "bytearray.__new__" "bytearray.__init__" :=
  ⟨by decide +kernel, by decide +kernel, ⟨_, _, mro⟩, madeBy_type mro lookup_new (by decide +kernel), by decide +kernel, by rw [isSubtype_type]; kernel_rfl, slot_init⟩
theorem typeCall (a : Value) : checkTypeCall "bytearray" ⟨[a], []⟩ = pure () := by kernel_rfl
theorem newCall (a : Value) : checkBuiltinCall "bytearray.__new__" ⟨[.type "bytearray", a], []⟩ = pure () := by kernel_rfl
theorem entry_new : entryFor table "bytearray.__new__" = some Builtin.«list.__new__» := entryFor_alias (id' := "list.__new__") (by rw [fastTable_eq_tree]; kernel_rfl) (by decide +kernel) (by decide +kernel) (by rw [fastTable_eq_tree]; kernel_rfl)
theorem entry_init : entryFor table "bytearray.__init__" = some Builtin.«bytearray.__init__» := entryFor_of_tree (by kernel_rfl)
theorem plain_new : plainId "bytearray.__new__" = true := by decide +kernel
theorem plain_init : plainId "bytearray.__init__" = true := by decide +kernel
set_option maxRecDepth 1000000 in
set_option maxHeartbeats 4000000 in
theorem owner_new : ("bytearray.__new__".splitOn ".__new__").headD "" = "bytearray" := by simp +decide [String.splitOn, String.splitOnAux]
theorem sub_self : isSubtype (.type "bytearray") (.type "bytearray") = pure true := by rw [isSubtype_type]; kernel_rfl
end BA
section
variable {prog : Program} {w : World} {A : Around} {E : Value → Shared → Prop} {s : Shared}
theorem code_ba_new (a : Value) {Q₁ : Value → Shared → Prop}
    (h : Q₁ (.ref s.heap.objs.size) { s with heap := s.heap.push { cls := .type "bytearray", data := .bytearray #[] 0 } }) :
    codeAny (model prog w) A (.call (.builtin "bytearray.__new__") ⟨[.type "bytearray", a], []⟩) (wants Q₁ E) s := by
  refine codeAny_of_tree ?_
  show wpAny _ A.in1 (do checkBuiltinCall "bytearray.__new__" ⟨[.type "bytearray", a], []⟩; again (.builtin "bytearray.__new__" ⟨[.type "bytearray", a], []⟩)) _ _ s
  refine wpAny_bind (wpAny_of_eq (BA.newCall a) (wpAny_pure ⟨plainId_quiet BA.plain_new _, codeAny_builtin_stack BA.entry_new rfl fun p st => ?_⟩))
  rw [Around.under_plainId BA.plain_new _]
  have hsub := BA.sub_self
  have hown := BA.owner_new
  obtain ⟨hp, g, d, tk, os⟩ := s
  simp only [hown]
  wp_walk
  exact h
theorem codeC_builtin {R : Result → Shared → Prop} {id : String} {args : Args} {b : Builtin} (hb : entryFor table id = some b) (hbad : badIds.contains id = false)
    (h : wpC (model prog w) (A.under (.builtin id args)) (b args)
      (fun fin s' => match fin with | .done f => R (.ok f) s' | .again c' => c'.quiet = true ∧ codeC (model prog w) A c' R s') (fun e s' => R (.error e) s') s) :
    codeC (model prog w) A (.builtin id args) R s := by
  refine codeC_of_tree hbad ?_
  show wpC _ _ (match entryFor table id with | some b => b args | none => unsupported ((withoutEnding? id "#data").getD id)) _ _ s
  rw [hb]; exact h
set_option maxHeartbeats 1000000 in
theorem type_call_c {T newId initId : String} {Bi : Builtin} {args : List Value} {Q Q₁ : Value → Shared → Prop} (ft : TypeCalled T newId initId)
    (hct : checkTypeCall T ⟨args, []⟩ = pure ()) (entryI : entryFor table initId = some Bi) (hbad : badIds.contains initId = false)
    (hnew : codeAny (model prog w) A.in1 (.call (.builtin newId) ⟨.type T :: args, []⟩) (wants Q₁ E) s)
    (hnext : ∀ obj s₁, Q₁ obj s₁ → s₁.TypeIs obj T ∧ argsOk initId ⟨obj :: args, []⟩ ∧
      wpC (model prog w) A.in1.in1 (Bi ⟨obj :: args, []⟩) (fun fin s' => ∃ f, fin = .done f ∧ wants (fun r s₂ => r = .none ∧ Q obj s₂) E (.ok f) s')
        (fun e s' => wants (fun r s₂ => r = .none ∧ Q obj s₂) E (.error e) s') s₁) :
    wpC (model prog w) A (call (.type T) args) Q E s := by
  obtain ⟨c, tl, hmro⟩ := ft.mro
  have hmade := ft.made
  have hsub := ft.sub
  refine wpC_call (codeC_of_tree rfl ?_)
  show wpC _ _ (callAny (.type T) _) _ _ _
  refine wpC_pure ⟨Code.quiet_builtin _ (by decide +kernel), codeC_builtin F.entry_type_call (by decide +kernel) ?_⟩
  rw [Around.under_plain (weight_type_call_type T args []) rfl]
  have h1 := ft.notType
  have h2 := ft.canCreate
  unfold Builtin.«type.__call__»
  simp only [h1, h2, hct, hmro, hmade, pure_bind, Bool.false_eq_true, if_false, List.isEmpty_cons]
  refine wpC_bind (wpC_holding (wpC_call (codeC_of (codeAny_mono hnew fun r s₁ hr => ?_))))
  cases r with
  | error e => exact hr
  | ok fl =>
    cases fl with
    | ret obj =>
      obtain ⟨hT, hok, hsi⟩ := hnext _ _ hr
      have hli := ft.init.lookup
      have hbi := ft.init.bind obj
      dsimp only
      refine wpC_bind (wpC_of (wpAny_isInstance hT hsub ?_))
      simp only [Bool.not_true, Bool.false_eq_true, if_false]
      have hcall : wpC (model prog w) A.in1 (call (.builtin initId) (obj :: args)) (fun r s₂ => r = .none ∧ Q obj s₂) E s₁ := by
        refine wpC_call (codeC_of_tree rfl ?_)
        show wpC _ A.in1.in1 (do checkBuiltinCall initId ⟨obj :: args, []⟩; again (.builtin initId ⟨obj :: args, []⟩)) _ _ s₁
        refine wpC_bind (wpC_of (ft.init.check _ _ _ _ _ _ _ _ hT hok (wpC_pure ⟨plainId_quiet ft.init.plain _, codeC_builtin entryI hbad ?_⟩)))
        rw [Around.under_plainId ft.init.plain _]
        exact wpC_mono hsi (fun fin s' ⟨f, e, q⟩ => by subst e; exact q) fun e s' q => q
      refine wpC_bind (wpC_holding ?_)
      unfold callSpecial?
      refine wpC_bind (wpC_of (wpAny_specialOf hT hli ?_))
      simp only [hbi, pure_bind]
      refine wpC_holding (wpC_bind (wpC_mono hcall (fun r s₂ ⟨e, q⟩ => ?_) fun _ _ x => x))
      subst e
      refine wpC_pure ?_
      dsimp only
      rw [if_neg (by decide)]
      exact wpC_pure q
    | _ => exact hr.elim
theorem exported_c {x : Addr} {Q : Bool → Shared → Prop} (h : Q false s) : wpC (model prog w) A (Builtin.Bytes.exported (.ref x)) Q E s := by
  unfold Builtin.Bytes.exported
  refine wpC_bind (wpC_stack fun st hst => wpC_pure ?_)
  have e : ∀ f : Code × Pos → Bool, (∀ y ∈ st, f y = false) → st.any f = false := fun f hf => List.any_eq_false.mpr fun y hy => by rw [hf y hy]; exact Bool.false_ne_true
  rw [e]
  · exact h
  · intro y hy
    have hb := hst y hy
    obtain ⟨c, p⟩ := y
    cases c with
    | builtin id args =>
      have hb' : badIds.contains id = false := hb
      have hn : ∀ i ∈ badIds, id ≠ i := fun i hi e => by subst e; rw [List.contains_iff_mem.mpr hi] at hb'; cases hb'
      have n1 := hn "bytearray.__contains__" (.head _)
      have n2 := hn "bytearray.__mod__" (.tail _ (.head _))
      have n3 := hn "bytearray.__rmod__" (.tail _ (.tail _ (.head _)))
      have n4 := hn "_struct.pack_into.held" (.tail _ (.tail _ (.tail _ (.head _))))
      have n5 := hn "bytearray.find.held" (.tail _ (.tail _ (.tail _ (.tail _ (.head _)))))
      have n6 : Builtin.Bytes.decodersThatHold.contains id = false := Bool.eq_false_iff.mpr fun h => by
        have := hn id (.tail _ (.tail _ (.tail _ (.tail _ (.tail _ (List.contains_iff_mem.mp h))))))
        exact this rfl
      clear hst hy hb hb' hn
      delta Builtin.Bytes.exported.match_1
      dsimp only
      change dite _ _ _ = false
      refine (dif_neg n1).trans ((dif_neg n2).trans ((dif_neg n3).trans ((dif_neg n4).trans ((dif_neg n5).trans ?_))))
      obtain ⟨pos, kw⟩ := args
      cases pos with
      | nil => rfl
      | cons v l =>
        show (Builtin.Bytes.sameRef v (.ref x) && Builtin.Bytes.decodersThatHold.contains id) = false
        rw [n6, Bool.and_false]
    | _ => rfl
theorem past_ba {b : Array UInt8} {k : Nat} (h : b.size ≤ 10000) : (Data.bytearray b k).pastItsLine = none := by
  show (if b.size > sizeLine then some "bytearray:memory" else none) = none
  exact if_neg (by rw [sizeLine_eq]; omega)
theorem ba_write {M : Model} {x : Addr} {b : Array UInt8} {k : Nat} {f : Array UInt8 → Array UInt8} {Q : Unit → Shared → Prop} (hx : s.heap.get? x = some { cls := .type "bytearray", data := .bytearray b k }) (hz : (f b).size ≤ 10000)
    (h : Q () { s with heap := s.heap.update x (Obj.mapBytearray f) }) : wpAny M A (Builtin.Bytes.write (.ref x) f) Q E s := by
  show wpAny M A (updateBytearray x f) Q E s
  unfold updateBytearray
  refine wpAny_bind (wpAny_load hx ?_)
  dsimp only
  refine wpAny_bind (wpAny_update hx ?_)
  have h2 : (s.heap.update x (Obj.mapBytearray f)).get? x = some { cls := .type "bytearray", data := .bytearray (f b) k } := Heap.get?_update_self _ hx rfl
  exact wpAny_lookBehind h2 (past_ba hz) h
end
abbrev BaArg : Type := (Program × World × Around × (Value → Shared → Prop)) × Shared × Addr × Nat × Tok × (Fin → Shared → Prop)
def BaP (prog : Program) (w : World) (A : Around) (E : Value → Shared → Prop) (s : Shared) (x : Addr) (n : Nat) (t : Tok) (Q : Fin → Shared → Prop) : Prop :=
  s.heap.get? x = some { cls := .type "bytearray", data := .bytearray #[] 0 } → n ≤ 1000 → 0 < n →
    Q (.done (.ret .none)) { s with heap := (s.heap.update x (Obj.mapBytearray fun _ => #[])).update x (Obj.mapBytearray fun _ => Array.replicate ((n : Int).toNat) 0) } →
    wpC (model prog w) A (Builtin.«bytearray.__init__» ⟨[.ref x, .int n t], []⟩) Q E s
namespace BaN
@[irreducible] noncomputable def e : BaArg := worst ((Mine.prog, w0, {}, fun _ _ => True), (start Mine.prog).1, 0, 0, 0, fun _ _ => True) fun e => BaP e.1.1 e.1.2.1 e.1.2.2.1 e.1.2.2.2 e.2.1 e.2.2.1 e.2.2.2.1 e.2.2.2.2.1 e.2.2.2.2.2
@[irreducible] noncomputable def prog : Program := e.1.1
@[irreducible] noncomputable def w : World := e.1.2.1
@[irreducible] noncomputable def A : Around := e.1.2.2.1
@[irreducible] noncomputable def E : Value → Shared → Prop := e.1.2.2.2
@[irreducible] noncomputable def s : Shared := e.2.1
@[irreducible] noncomputable def x : Addr := e.2.2.1
@[irreducible] noncomputable def n : Nat := e.2.2.2.1
@[irreducible] noncomputable def t : Tok := e.2.2.2.2.1
@[irreducible] noncomputable def Q : Fin → Shared → Prop := e.2.2.2.2.2
set_option maxHeartbeats 4000000 in
theorem at_ : BaP prog w A E s x n t Q := by
  intro hx hn hn0 h
  unfold Builtin.«bytearray.__init__»
  dsimp only
  have hT : s.TypeIs (.ref x) "bytearray" := ⟨_, hx, rfl⟩
  have hbo : Builtin.Bytes.bindOptional "bytearray.__init__" "bytearray" ["source", "encoding", "errors"] [.int n t] [] = pure [some (.int n t), none, none] := by rfl
  have hc1 : ∀ a b c, Builtin.Bytes.checkCodecArg a b c none = pure () := fun _ _ _ => rfl
  refine wpC_bind (wpC_of ?_)
  unfold Builtin.Bytes.ownRelease Builtin.Bytes.slotIsOwn
  refine wpAny_bind (wpAny_bind (wpAny_specialOf hT BA.lookup_release ?_))
  dsimp only
  rw [if_neg (by decide +kernel)]
  refine wpAny_isInstance (b := true) hT BA.sub_release (wpAny_pure ?_)
  simp only [Bool.not_true, Bool.false_eq_true, if_false, hbo, hc1, pure_bind]
  refine wpC_bind ?_
  unfold orM
  refine wpC_bind (exported_c ?_)
  dsimp only [toBool]
  unfold Builtin.Bytes.exportsOf
  refine wpC_of (wpAny_bind (wpAny_bind (wpAny_load hx (wpAny_pure (wpAny_pure ?_)))))
  refine wpC_of ?_
  rw [if_neg (by decide)]
  refine wpAny_bind (ba_write hx (by simp) ?_)
  have hx2 : (s.heap.update x (Obj.mapBytearray fun _ => #[])).get? x = some { cls := .type "bytearray", data := .bytearray #[] 0 } := Heap.get?_update_self _ hx rfl
  have has : asStr? (.int (n : Int) t) = pure none := rfl
  simp only [has, pure_bind, Option.isSome_none, Bool.false_eq_true, if_false]
  refine wpAny_bind ?_
  have hTi : ∀ s : Shared, s.TypeIs (.int (n : Int) t) "int" := fun s => typeIs_int s _ t
  have hli : typeLookup (.type "int") "__index__" = pure (some (.builtin "int.__index__")) := F.slot_int_index.lookup
  have hb0 := hTi { s with heap := s.heap.update x (Obj.mapBytearray fun _ => #[]) }
  have key : ∀ (Q' : Option Value → Shared → Prop) (E' : Value → Shared → Prop), Q' (some (.builtin "int.__index__")) { s with heap := s.heap.update x (Obj.mapBytearray fun _ => #[]) } → wpAny (model prog w) A (specialOf (.int (n : Int) t) "__index__") Q' E' { s with heap := s.heap.update x (Obj.mapBytearray fun _ => #[]) } := fun Q' E' hq => wpAny_specialOf hb0 hli hq
  refine key _ _ ?_
  simp only [Option.isSome_some, if_true]
  have hai : asIndex (.int (n : Int) t) = pure (n : Int) := rfl
  have key2 : ∀ (f : Except Value Int → Sem Fin) (Q' : Fin → Shared → Prop) (E' : Value → Shared → Prop) (s' : Shared), wpAny (model prog w) A (f (.ok (n : Int))) Q' E' s' → wpAny (model prog w) A ((asIndex (.int (n : Int) t)).attempt >>= f) Q' E' s' := fun f Q' E' s' hq => by
    rw [hai]; exact wpAny_bind (wpAny_attempt (wpAny_pure hq))
  refine key2 _ _ _ _ ?_
  dsimp only
  have hf : Builtin.Bytes.fitsIndex (n : Int) = true := Bool.and_eq_true_iff.mpr ⟨decide_eq_true (by omega), decide_eq_true (by omega)⟩
  have hb : ((n : Int) == 2 ^ 63 - 1) = false := beq_eq_false_iff_ne.mpr (by omega)
  have hl : Builtin.Bytes.tooLong ((n : Int).toNat) = false := decide_eq_false (by rw [sizeLine_eq]; omega)
  have h0 : ¬ (n : Int) < 0 := by omega
  simp only [hf, hb, hl, h0, Bool.not_true, Bool.false_eq_true, if_false]
  refine wpAny_bind (wpAny_rule ?_)
  rw [if_pos (by omega)]
  refine wpAny_bind (ba_write hx2 (by simp; omega) ?_)
  exact wpAny_pure h
end BaN
section
variable {prog : Program} {w : World} {A : Around} {E : Value → Shared → Prop} {s : Shared}
theorem ba_init {x : Addr} {n : Nat} {t : Tok} (hx : s.heap.get? x = some { cls := .type "bytearray", data := .bytearray #[] 0 }) (hn : n ≤ 1000) (hn0 : 0 < n) {Q : Fin → Shared → Prop}
    (h : Q (.done (.ret .none)) { s with heap := (s.heap.update x (Obj.mapBytearray fun _ => #[])).update x (Obj.mapBytearray fun _ => Array.replicate ((n : Int).toNat) 0) }) :
    wpC (model prog w) A (Builtin.«bytearray.__init__» ⟨[.ref x, .int n t], []⟩) Q E s :=
  of_worst (P := fun e : BaArg => BaP e.1.1 e.1.2.1 e.1.2.2.1 e.1.2.2.2 e.2.1 e.2.2.1 e.2.2.2.1 e.2.2.2.2.1 e.2.2.2.2.2) (c := BaN.e) (by with_unfolding_all rfl) (by with_unfolding_all exact BaN.at_) ((prog, w, A, E), s, x, n, t, Q) hx hn hn0 h
theorem argsOk_init (v : Value) (n : Nat) (t : Tok) : argsOk "bytearray.__init__" ⟨[v, .int n t], []⟩ := by
  unfold argsOk
  kernel_rfl
abbrev baObj (b : Array UInt8) : Obj := { cls := .type "bytearray", data := .bytearray b 0 }
theorem ba_make {h₀ : Heap} {L : Addr} {m : Str → Option Value} {news : List (Addr × Obj)} {n : Nat} {t : Tok} {Q : Value → Shared → Prop} (F : Fr h₀ L s.heap m) (N : News h₀ L s.heap news) (hn : n ≤ 1000) (h0 : 0 < n)
    (h : ∀ x h', Fr h₀ L h' m → News h₀ L h' ((x, baObj (Array.replicate n 0)) :: news) → (∀ p ∈ news, @LT.lt Nat _ p.1 x) → Q (.ref x) { s with heap := h' }) :
    wpC (model prog w) A (call (.type "bytearray") [.int n t]) Q E s := by
  refine type_call_c BA.called (BA.typeCall _) BA.entry_init (by decide +kernel) (code_ba_new (Q₁ := fun v s₁ => v = .ref s.heap.objs.size ∧ s₁ = { s with heap := s.heap.push (baObj #[]) }) _ ⟨rfl, rfl⟩) ?_
  rintro obj s₁ ⟨rfl, rfl⟩
  have F1 := F.push (baObj #[])
  have N1 := News.push F N (baObj #[])
  have g1 := (N1 _ (.head _)).1
  refine ⟨⟨_, g1, rfl⟩, argsOk_init _ _ _, ba_init g1 hn h0 ⟨_, rfl, rfl, ?_⟩⟩
  have hlt : ∀ p ∈ news, @LT.lt Nat _ p.1 s.heap.objs.size := fun p hp => Heap.lt_size (N p hp).1
  have hne : ∀ p ∈ news, p.1 ≠ s.heap.objs.size := fun p hp => Nat.ne_of_lt (hlt p hp)
  obtain ⟨F2, N2⟩ := news_upd (pre := []) (post := news) (f := Obj.mapBytearray fun _ => #[]) (o' := baObj #[]) F1 N1 (fun _ h => nomatch h) hne rfl rfl
  obtain ⟨F3, N3⟩ := news_upd (pre := []) (post := news) (f := Obj.mapBytearray fun _ => Array.replicate ((n : Int).toNat) 0) (o' := baObj (Array.replicate n 0)) F2 N2 (fun _ h => nomatch h) hne rfl rfl
  exact h _ _ F3 N3 hlt
end
end Mine
end

section
open PySem PySem.W PyProof.Rows
open Sem (wp)
set_option maxRecDepth 100000
namespace Mine
section
variable {prog : Program} {w : World} {A : Around} {E : Value → Shared → Prop} {s : Shared} {h₀ : Heap} {L : Addr} {m : Str → Option Value} {news news' : List (Addr × Obj)}
theorem argsOk_set (v : Value) (k : Int) (t : Tok) (b : Int) (u : Tok) : argsOk "bytearray.__setitem__" ⟨[v, .int k t, .int b u], []⟩ := by
  unfold argsOk
  kernel_rfl
set_option maxHeartbeats 2000000 in
theorem ba_setItem {x : Addr} {b : Array UInt8} {k : Int} {t u : Tok} {c : Nat} {Q : Unit → Shared → Prop} (hF : Fr h₀ L s.heap m) (N : News h₀ L s.heap news) (h0 : 0 ≤ k) (hk : k < b.size) (hz : b.size ≤ 1000) (hc : c < 256)
    (U : Upd x (baObj b) (baObj (b.setIfInBounds k.toNat c.toUInt8)) news news') (h : ∀ h', Fr h₀ L h' m → News h₀ L h' news' → Q () { s with heap := h' }) :
    wpAny (model prog w) A (setItem (.ref x) (.int k t) (.int (c : Int) u)) Q E s := by
  obtain ⟨pre, post, rfl, rfl, a1, a2⟩ := U.split
  have g := (N (x, baObj b) (by simp)).1
  have hT : s.TypeIs (.ref x) "bytearray" := ⟨_, g, rfl⟩
  unfold setItem
  refine wpAny_holding (wpAny_bind ?_)
  unfold sequenceKey
  refine wpAny_bind (wpAny_typeOf hT ?_)
  dsimp only
  rw [if_pos (by decide +kernel)]
  refine wpAny_pure (wpAny_bind (wpAny_callSpecial?_slot hT BA.slot_setitem ?_))
  refine wpAny_call (codeAny_call_builtin BA.slot_setitem.plain BA.entry_setitem (BA.slot_setitem.check _ _ _ _ _ _ _ _ hT (argsOk_set _ _ _ _ _) ?_))
  show wpAny _ _ (Builtin.«bytearray.__setitem__» ⟨[.ref x, .int k t, .int (c : Int) u], []⟩) _ _ s
  unfold Builtin.«bytearray.__setitem__»
  dsimp only
  rw [if_neg (by decide)]
  have hsub : ∀ (f : Option Int → Sem Fin) (Q' : Fin → Shared → Prop) (E' : Value → Shared → Prop), wpAny (model prog w) A.in1 (f (some k)) Q' E' s → wpAny (model prog w) A.in1 (Builtin.Bytes.subscript? (.int k t) >>= f) Q' E' s := by
    intro f Q' E' hq
    unfold Builtin.Bytes.subscript?
    refine wpAny_bind (wpAny_bind (wpAny_specialOf (typeIs_int s k t) F.slot_int_index.lookup ?_))
    have hai : asIndex (.int k t) = pure k := rfl
    have hf : Builtin.Bytes.fitsIndex k = true := Bool.and_eq_true_iff.mpr ⟨decide_eq_true (by omega), decide_eq_true (by omega)⟩
    simp only [hai, Option.isNone_some, Bool.false_eq_true, if_false, pure_bind, hf, Bool.not_true]
    exact wpAny_pure hq
  refine hsub _ _ _ ?_
  dsimp only
  have hbv : Builtin.Bytes.byteValue (.int (c : Int) u) = pure c.toUInt8 := by
    unfold Builtin.Bytes.byteValue
    have hai : asIndex (.int (c : Int) u) = pure (c : Int) := rfl
    have e1 : (decide ((c : Int) < 0) || decide ((c : Int) ≥ 256)) = false := by
      rw [Bool.or_eq_false_iff]; exact ⟨decide_eq_false (by omega), decide_eq_false (by omega)⟩
    simp only [hai, pure_bind, e1, Bool.false_eq_true, if_false]
    rfl
  rw [hbv]
  refine wpAny_bind (wpAny_pure ?_)
  have hpl : ∀ (f : Array UInt8 → Sem Fin) (Q' : Fin → Shared → Prop) (E' : Value → Shared → Prop), wpAny (model prog w) A.in1 (f b) Q' E' s → wpAny (model prog w) A.in1 (Builtin.Bytes.payload (.ref x) >>= f) Q' E' s := by
    intro f Q' E' hq
    refine wpAny_bind ?_
    unfold Builtin.Bytes.payload Builtin.Bytes.payload?
    refine wpAny_bind (wpAny_bind (wpAny_load g (wpAny_pure ?_)))
    exact wpAny_pure hq
  refine hpl _ _ _ ?_
  rw [StrLaws.seqIndex_nonneg h0 hk]
  dsimp only
  refine wpAny_bind (ba_write g (by rw [Array.size_setIfInBounds]; omega) ?_)
  obtain ⟨F2, N2⟩ := news_upd (f := Obj.mapBytearray fun b => b.setIfInBounds k.toNat c.toUInt8) (o' := baObj (b.setIfInBounds k.toNat c.toUInt8)) hF N a1 a2 rfl rfl
  exact wpAny_pure (wpAny_pure (h _ F2 N2))
end
end Mine
end

section
open PySem PySem.W PyProof.Rows
open Sem (wp)
set_option maxRecDepth 100000
namespace Mine
namespace BA
theorem no_bytes : typeLookup (.type "bytearray") "__bytes__" = pure none := by rw [typeLookup_type, builtinLookup_eq_fast]; kernel_rfl
theorem noIndex : typeLookup (.type "bytearray") "__index__" = pure none := by rw [typeLookup_type, builtinLookup_eq_fast]; kernel_rfl
theorem lookup_buffer : typeLookup (.type "bytearray") "__buffer__" = pure (some (.builtin "bytearray.__buffer__")) := by rw [typeLookup_type, builtinLookup_eq_fast]; kernel_rfl
theorem sub_buffer : isSubtype (.type "bytearray") (.type ("bytearray.__buffer__".dropRight ("__buffer__".length + 1))) = pure true := by
  have e : "bytearray.__buffer__".dropRight ("__buffer__".length + 1) = "bytearray" := by decide +kernel
  rw [e, isSubtype_type]; kernel_rfl
end BA
section
variable {prog : Program} {w : World} {A : Around} {E : Value → Shared → Prop} {s : Shared}
theorem ba_release {x : Addr} (hT : s.TypeIs (.ref x) "bytearray") {Q : Bool → Shared → Prop} (h : Q false s) : wpAny (model prog w) A (Builtin.Bytes.ownRelease (.ref x)) Q E s := by
  unfold Builtin.Bytes.ownRelease Builtin.Bytes.slotIsOwn
  refine wpAny_bind (wpAny_bind (wpAny_specialOf hT BA.lookup_release ?_))
  dsimp only
  rw [if_neg (by decide +kernel)]
  exact wpAny_isInstance (b := true) hT BA.sub_release (wpAny_pure h)
theorem ba_own {x : Addr} (hT : s.TypeIs (.ref x) "bytearray") {Q : Bool → Shared → Prop} (h : Q true s) : wpAny (model prog w) A (Builtin.Bytes.slotIsOwn (.ref x) "__buffer__") Q E s := by
  unfold Builtin.Bytes.slotIsOwn
  refine wpAny_bind (wpAny_specialOf hT BA.lookup_buffer ?_)
  dsimp only
  rw [if_neg (by decide +kernel)]
  exact wpAny_isInstance (b := true) hT BA.sub_buffer h
set_option maxHeartbeats 2000000 in
theorem ba_bytes_new {x : Addr} {b : Array UInt8} {Q : Value → Shared → Prop} (g : s.heap.get? x = some (baObj b)) (hz : b.size ≤ 1000)
    (hQ : ∀ t k, Q (.bytes b t) { s with toks := k }) : codeAny (model prog w) A (.call (.builtin "bytes.__new__") ⟨[.type "bytes", .ref x], []⟩) (wants Q E) s := by
  refine codeAny_of_tree ?_
  show wpAny _ A.in1 (do checkBuiltinCall "bytes.__new__" ⟨[.type "bytes", .ref x], []⟩; again (.builtin "bytes.__new__" ⟨[.type "bytes", .ref x], []⟩)) _ _ s
  refine wpAny_bind (wpAny_of_eq (F.bm_newCall _) (wpAny_pure ⟨plainId_quiet F.bm_plain _, codeAny_builtin F.bm_entry ?_⟩))
  rw [Around.under_plainId F.bm_plain _]
  have hT : s.TypeIs (.ref x) "bytearray" := ⟨_, g, rfl⟩
  unfold Builtin.«bytes.__new__»
  refine wpAny_bind (wpAny_of_eq (a := true) rfl ?_)
  refine bm_if_false rfl ?_
  refine wpAny_bind (wpAny_of_eq F.bm_sub ?_)
  refine bm_if_false rfl ?_
  refine wpAny_bind (wpAny_of_eq (F.bm_bind _) ?_)
  refine wpAny_bind (wpAny_of_eq (a := ()) rfl ?_)
  refine wpAny_bind (wpAny_of_eq (a := ()) rfl ?_)
  refine bm_if_false rfl ?_
  refine wpAny_bind (wpAny_specialOf hT BA.no_bytes ?_)
  refine wpAny_bind (wpAny_bind ?_)
  show wpAny _ _ (load x >>= _) _ _ _
  refine wpAny_bind (wpAny_load g ?_)
  refine wpAny_pure (wpAny_pure ?_)
  refine bm_if_false rfl ?_
  refine wpAny_bind (wpAny_specialOf hT BA.noIndex ?_)
  refine bm_if_true rfl ?_
  first
    | show wpAny _ _ (Builtin.Bytes.buffer? "bytes.__new__" (.ref x) true >>= _) _ _ _
    | (refine wpAny_bind ?_; show wpAny _ _ (Builtin.Bytes.buffer? "bytes.__new__" (.ref x) true >>= _) _ _ _)
  refine wpAny_bind ?_
  unfold Builtin.Bytes.buffer?
  refine wpAny_bind (wpAny_specialOf hT BA.lookup_buffer ?_)
  dsimp only
  refine wpAny_bind (ba_own hT ?_)
  refine bm_if_false rfl ?_
  refine wpAny_bind (wpAny_specialOf hT BA.lookup_buffer ?_)
  refine wpAny_bind (ba_release hT ?_)
  refine bm_if_false rfl ?_
  unfold Builtin.Bytes.payload Builtin.Bytes.payload?
  refine wpAny_bind (wpAny_bind (wpAny_bind (wpAny_load g (wpAny_pure ?_))))
  refine wpAny_pure (wpAny_pure ?_)
  dsimp only
  refine wpAny_bind (wpAny_rule ?_)
  refine wpAny_bind (wpAny_mkBytes ?_ (by rw [sizeLine_eq]; omega))
  exact wpAny_of_eq (a := .done (.ret (.bytes b s.toks))) rfl (hQ _ _)
theorem ba_bytes {x : Addr} {b : Array UInt8} {Q : Value → Shared → Prop} (g : s.heap.get? x = some (baObj b)) (hz : b.size ≤ 1000)
    (hQ : ∀ t k, Q (.bytes b t) { s with toks := k }) : wpAny (model prog w) A (call (.type "bytes") [.ref x]) Q E s := by
  refine callType_codes (Q₁ := fun obj s₁ => s₁.TypeIs obj "bytes" ∧ Q obj s₁) F.bm_called (F.bm_typeCall _) F.entry_object_init
    (ba_bytes_new g hz fun t k => ⟨PySem.W.typeIs_bytes _ _ _, hQ t k⟩) fun obj s₁ h₁ => ?_
  exact ⟨h₁.1, F.args_object_init_2 obj _, object_init_meets F.bm_called.init.lookup F.bm_called.made (by decide) prog w A.in1 _ s₁ ⟨h₁.1, rfl, h₁.2⟩⟩
end
end Mine
end

section
open PySem PySem.W PyProof.Rows
set_option maxRecDepth 100000
namespace Mine
section
variable {prog : Program} {w : World} {A : Around} {E : Value → Shared → Prop} {s : Shared} {env : Env} {h₀ : Heap} {body : List Stmt} {Q : Flow → Shared → Prop}
def EnumEnd (h₀ : Heap) (L I1 I2 : Addr) (o1 o2 : Obj) (J : (Str → Option Value) → List (Addr × Obj) → Prop) (s₁ s₂ : Shared) : Prop :=
  ∃ h' tk m' nx, s₂ = { s₁ with heap := h', toks := tk } ∧ Fr h₀ L h' m' ∧ News h₀ L h' ((I1, o1) :: (I2, o2) :: nx) ∧ (∀ p ∈ nx, p.1 ≠ I1 ∧ p.1 ≠ I2) ∧ J m' nx
def EnumPost (h₀ : Heap) (L I1 I2 : Addr) (o1 o2 : Obj) (J : (Str → Option Value) → List (Addr × Obj) → Prop) (s₁ : Shared) (Q : Flow → Shared → Prop) (f : Flow) (s₂ : Shared) : Prop :=
  match f with
  | .ret v => Q (.ret v) s₂
  | .brk => Q .next s₂
  | _ => EnumEnd h₀ L I1 I2 o1 o2 J s₁ s₂
/-- for a, b in enumerate(a list of the ledger) -/
theorem gen_enum {elts : List Expr} {k : Nat} {pos : Pos} {l : Addr} {vs : Array Value} {nn : Nat} {m₀ : Str → Option Value} {news : List (Addr × Obj)} (J : Nat → (Str → Option Value) → List (Addr × Obj) → Prop)
    (hh : A.handled = none) (hl : (l, listOf vs nn) ∈ news) (F : Fr h₀ env.locals s.heap m₀) (N : News h₀ env.locals s.heap news) (h0 : J 0 m₀ news) (hJl : ∀ i m nx, J i m nx → (l, listOf vs nn) ∈ nx)
    (turn : ∀ (i : Nat) v t x T m₁ nx h tk I1 I2 o1 o2, vs[i]? = some x → v = .ref T → IsTup h T #[.int ((i : Nat) : Int) t, x] → (∀ p ∈ nx, p.1 ≠ I1 ∧ p.1 ≠ I2) → J i m₁ nx → Fr h₀ env.locals h m₁ → News h₀ env.locals h ((I1, o1) :: (I2, o2) :: nx) →
      wpAny (model prog w) A (assign (.Tuple elts k pos) env v) (fun _ s₃ => wpAny (model prog w) A (execs body env)
        (EnumPost h₀ env.locals I1 I2 o1 o2 (J (i + 1)) { s with heap := h, toks := tk } Q) E s₃) E { s with heap := h, toks := tk })
    (done : ∀ m₁ nx h tk, J vs.size m₁ nx → Fr h₀ env.locals h m₁ → News h₀ env.locals h nx → Q .next { s with heap := h, toks := tk }) :
    wpAny (model prog w) A (call (.type "enumerate") [.ref l]) (fun xv s₁ => wpAny (model prog w) A (pyIter xv) (fun it s₂ => TurnsAt prog w A h₀ env (.Tuple elts k pos) body Q E it s₂) E s₁) E s := by
  have hax := N _ hl
  have hls : s.heap.IsList l vs := ⟨_, hax.1, rfl, nn, rfl⟩
  have hlt : l < s.heap.objs.size := Heap.lt_size hax.1
  have hLs : env.locals < s.heap.objs.size := F.ns.lt
  refine call_enumerate_list hls fun h' hE hI hsz hk => ?_
  refine wpAny_pyIter_enum hE ?_
  have new1 : h₀.get? s.heap.objs.size = none := Heap.get?_none_of_le (Nat.le_trans F.above (Nat.le_of_lt hLs))
  have new2 : h₀.get? (s.heap.objs.size + 1) = none := Heap.get?_none_of_le (Nat.le_trans F.above (Nat.le_trans (Nat.le_of_lt hLs) (Nat.le_succ _)))
  have W := KTurns.ofWalksU (elts := elts) (k := k) (pos := pos) (WalksT.enumerate (prog := prog) (w := w) hh (s.heap.objs.size + 1) s.heap.objs.size l (Nat.succ_ne_self _) (Nat.ne_of_lt (Nat.lt_succ_of_lt hlt)) (Nat.ne_of_lt hlt) vs).toU
  refine ⟨_, _, _, vs.size, _, _, _, m₀, news, J, rfl, W, ?_, ?_, ?_, ⟨⟨.none, hE⟩, hI, hls.at fun o e => hk l o e⟩, F.keeps hk, N.grown hk, h0, ?_, ?_⟩
  · intro hb
    have hb' : env.locals = s.heap.objs.size + 1 ∨ env.locals = s.heap.objs.size ∨ env.locals = l := by simpa using hb
    rcases hb' with e | e | e
    · exact absurd hLs (by rw [e]; exact Nat.not_lt.mpr (Nat.le_succ _))
    · exact absurd hLs (by rw [e]; exact Nat.lt_irrefl _)
    · exact hax.2.1 e.symm
  · intro b hb
    have hb' : b = s.heap.objs.size + 1 ∨ b = s.heap.objs.size := by simpa using hb
    rcases hb' with rfl | rfl
    · exact new2
    · exact new1
  · intro p hp hb
    have hb' : p.1 = s.heap.objs.size + 1 ∨ p.1 = s.heap.objs.size := by simpa using hb
    have hlp := Heap.lt_size (N p hp).1
    rcases hb' with e | e
    · exact absurd hlp (by rw [e]; exact Nat.not_lt.mpr (Nat.le_succ _))
    · exact absurd hlp (by rw [e]; exact Nat.lt_irrefl _)
  · rintro i v m₁ nx h₁ tk₁ own hin ⟨T, vals, rfl, ⟨t, x, hx, rfl⟩, hT⟩ hJ hoff hown hget hall ⟨⟨old, he⟩, ⟨oi, hoi, _⟩, _⟩ F₁ N₁
    obtain ⟨oe, hoe⟩ : ∃ oe : Obj, h₁.get? (s.heap.objs.size + 1) = some oe := ⟨_, he⟩
    have i1 := hall (s.heap.objs.size + 1) (by simp) new2 oe hoe
    have i2 := hall s.heap.objs.size (by simp) new1 oi hoi
    have hoff' : ∀ p ∈ nx, p.1 ≠ s.heap.objs.size + 1 ∧ p.1 ≠ s.heap.objs.size := fun p hp => ⟨fun e => hoff p hp (by simp [e]), fun e => hoff p hp (by simp [e])⟩
    refine wpAny_mono (turn i _ t x T m₁ nx h₁ tk₁ (s.heap.objs.size + 1) s.heap.objs.size oe oi hx rfl hT hoff' hJ F₁ fun p hp => N₁ p ?_) (fun _ s₃ q => wpAny_mono q (fun f s₂ p => ?_) fun _ _ y => y) fun _ _ y => y
    · rcases List.mem_cons.mp hp with rfl | hp
      · exact List.mem_append_left _ i1
      · rcases List.mem_cons.mp hp with rfl | hp
        · exact List.mem_append_left _ i2
        · exact List.mem_append_right _ hp
    · have fin : EnumEnd h₀ env.locals (s.heap.objs.size + 1) s.heap.objs.size oe oi (J (i + 1)) { s with heap := h₁, toks := tk₁ } s₂ →
          LoopStepU h₀ env.locals [s.heap.objs.size + 1, s.heap.objs.size] own (J (i + 1)) { s with heap := h₁, toks := tk₁ } .next s₂ := by
        rintro ⟨h', tk, m', nx', e, F', N', hd, hm⟩
        refine ⟨rfl, h', tk, m', nx', e, F', fun p hp => ?_, fun p hp hq => ?_, hm⟩
        · rcases List.mem_append.mp hp with h | h
          · have hb' : p.1 = s.heap.objs.size + 1 ∨ p.1 = s.heap.objs.size ∨ p.1 = l := by simpa using hown p h
            have hg := hget p h
            rcases hb' with e | e | e
            · rw [e, hoe] at hg
              have : p = (s.heap.objs.size + 1, oe) := Prod.ext e (Option.some.inj hg).symm
              exact this ▸ N' _ (.head _)
            · rw [e, hoi] at hg
              have : p = (s.heap.objs.size, oi) := Prod.ext e (Option.some.inj hg).symm
              exact this ▸ N' _ (.tail _ (.head _))
            · have h1 := (N₁ _ (List.mem_append_right own (hJl _ _ _ hJ))).1
              rw [e] at hg
              have : p = (l, listOf vs nn) := Prod.ext e (Option.some.inj (hg.symm.trans h1))
              exact this ▸ N' _ (.tail _ (.tail _ (hJl _ _ _ hm)))
          · exact N' p (.tail _ (.tail _ h))
        · have hb' : p.1 = s.heap.objs.size + 1 ∨ p.1 = s.heap.objs.size := by simpa using hq
          exact hb'.elim (hd p hp).1 (hd p hp).2
      cases f with
      | ret v => exact .ret p
      | brk => exact .brk p
      | next => exact .next (fin p)
      | cont => exact .cont (fin p)
  · rintro h' tk m' news' F' N' _ hJ
    exact done m' news' h' tk hJ F' N'
end
end Mine
end

section
open PySem PySem.W PyProof.Rows
set_option maxRecDepth 100000
namespace Mine
theorem clip_nat (a : Int) (n : Nat) : max 0 (min a (n : Int)) = ((min a.toNat n : Nat) : Int) := by
  rcases Int.le_total 0 a with h | h
  · obtain ⟨b, rfl⟩ := Int.eq_ofNat_of_zero_le h
    rw [Int.toNat_natCast]
    omega
  · rw [Int.toNat_of_nonpos h, Nat.zero_min]
    omega
theorem idx_from (i : Int) (n : Nat) : Builtin.Str.strSliceIndices (some i) none 1 n = Builtin.Str.strSliceIndices (some ((min (if i < 0 then i + n else i).toNat n : Nat) : Int)) none 1 n := by
  unfold Builtin.Str.strSliceIndices
  simp only [show (1 : Int) > 0 by decide, if_true]
  rw [clip_nat, clip_nat, if_neg (Int.not_lt.mpr (Int.natCast_nonneg _)), Int.toNat_natCast, Nat.min_assoc, Nat.min_self]
theorem idx_to (j n : Nat) : Builtin.Str.strSliceIndices none (some (j : Int)) 1 n = Builtin.Str.strSliceIndices none (some ((min j n : Nat) : Int)) 1 n := by
  unfold Builtin.Str.strSliceIndices
  simp only [show (1 : Int) > 0 by decide, if_true]
  rw [if_neg (Int.not_lt.mpr (Int.natCast_nonneg _)), if_neg (Int.not_lt.mpr (Int.natCast_nonneg _)), clip_nat, clip_nat, Int.toNat_natCast, Int.toNat_natCast, Nat.min_assoc, Nat.min_self]
theorem norm_from (i : Int) (n : Nat) : min (if i < 0 then i + n else i).toNat n = if i < 0 then min (i + n).toNat n else min i.toNat n := by
  split <;> rfl
theorem S_fromAny (l : List Nat) (i : Int) : Txt.slice (S l) (some i) none = S (l.drop (min (if i < 0 then i + l.length else i).toNat l.length)) := by
  have e : Txt.slice (S l) (some i) none = Txt.slice (S l) (some ((min (if i < 0 then i + l.length else i).toNat l.length : Nat) : Int)) none := by
    have e2 := idx_from i (S l).length
    rw [S_len] at e2
    unfold Txt.slice
    rw [S_len, e2]
  rw [e, S_from l (Int.natCast_nonneg _) (Int.ofNat_le.mpr (Nat.min_le_right _ _)), Int.toNat_natCast]
theorem S_toAny (l : List Nat) (j : Nat) : Txt.slice (S l) none (some (j : Int)) = S (l.take j) := by
  have e : Txt.slice (S l) none (some (j : Int)) = Txt.slice (S l) none (some ((min j l.length : Nat) : Int)) := by
    have e2 := idx_to j (S l).length
    rw [S_len] at e2
    unfold Txt.slice
    rw [S_len, e2]
  rw [e]
  show StrLaws.sliceText _ _ _ = _
  have hle : ((min j l.length : Nat) : Int) ≤ (S l).cps.toList.length := by rw [S_list]; exact Int.ofNat_le.mpr (Nat.min_le_right _ _)
  rw [StrLaws.sliceText_to ⟨Int.natCast_nonneg _, hle⟩]
  rw [S_list, List.drop_zero, Int.sub_zero, Int.toNat_natCast]
  show S (l.take _) = _
  rw [List.take_eq_take_min (l := l) (i := j)]
section
variable {prog : Program} {w : World} {A : Around} {E : Value → Shared → Prop} {s : Shared} {value slice : PySem.Expr} {l : List Nat} {t : Tok} {h₀ : Heap} {L : Addr} {m : Str → Option Value} {news : List (Addr × Obj)} {Q : Value → Shared → Prop}
theorem s_fromAny {i : Int} {ui : Tok} (hF : Fr h₀ L s.heap m) (hN : News h₀ L s.heap news) (hz : l.length ≤ 1000) (h : ∀ h' t' k, Fr h₀ L h' m → News h₀ L h' news → Q (.str (S (l.drop (min (if i < 0 then i + l.length else i).toNat l.length))) t') { s with heap := h', toks := k })
    (hs : subscripted slice false (.str (S l) t) (.ref s.heap.objs.size) = operate [.ref s.heap.objs.size, .str (S l) t] (getItem (.str (S l) t) (.ref s.heap.objs.size)) := by with_unfolding_all rfl)
    (ht : ∀ r, letTemporaryGo value (.str (S l) t) r = pure () := by intro _; with_unfolding_all rfl) :
    wpAny (model prog w) A (subscriptTail value slice (.str (S l) t) (.ref s.heap.objs.size)) Q E { s with heap := s.heap.push { cls := .type "slice", data := .fields #[.int i ui, .none, .none] } } :=
  slice_strN_sn_len hF hN (fun h' t' k a b _ => S_fromAny l i ▸ h h' t' k a b) hs ht (by rw [S_len, sizeLine_eq]; omega)
theorem s_toAny {j : Nat} {uj : Tok} (hF : Fr h₀ L s.heap m) (hN : News h₀ L s.heap news) (hz : l.length ≤ 1000) (h : ∀ h' t' k, Fr h₀ L h' m → News h₀ L h' news → Q (.str (S (l.take j)) t') { s with heap := h', toks := k })
    (hs : subscripted slice false (.str (S l) t) (.ref s.heap.objs.size) = operate [.ref s.heap.objs.size, .str (S l) t] (getItem (.str (S l) t) (.ref s.heap.objs.size)) := by with_unfolding_all rfl)
    (ht : ∀ r, letTemporaryGo value (.str (S l) t) r = pure () := by intro _; with_unfolding_all rfl) :
    wpAny (model prog w) A (subscriptTail value slice (.str (S l) t) (.ref s.heap.objs.size)) Q E { s with heap := s.heap.push { cls := .type "slice", data := .fields #[.none, .int (j : Int) uj, .none] } } :=
  slice_strN_ns_len hF hN (fun h' t' k a b _ => S_toAny l j ▸ h h' t' k a b) hs ht (by rw [S_len, sizeLine_eq]; omega)
end
theorem setL_of {v : Value} : ∀ {l : List Value} {j : Nat}, j < l.length → ki_setL l j v = some (l.set j v)
  | [], _, h => absurd h (Nat.not_lt_zero _)
  | _ :: _, 0, _ => rfl
  | _ :: _, j + 1, h => by
    show (match ki_setL _ j v with | some q => some (_ :: q) | none => none) = _
    rw [setL_of (Nat.lt_of_succ_lt_succ h)]; rfl
end Mine
end

section
open PySem PySem.W PyProof.Rows
set_option maxRecDepth 100000
namespace Mine
theorem fillK15 : PySem.Challenge.rw_xp0017_01 = PySem.Challenge.rw_xp0017_01 ∧ hd.heap_1 = hd.heap_1 := by
  w_top off
  k_fill
  exact ⟨rfl, rfl⟩
theorem lit_signs {i : Int} (h0 : 0 ≤ i) (h1 : i < 3) : Txt.item (Str.ofString "-<>") i = S [[45, 60, 62].getD i.toNat 0] := by
  have e : Str.ofString "-<>" = S [45, 60, 62] := by decide
  rw [e]
  exact S_item _ h0 h1
theorem lit_signs_in {i : Int} (h0 : 0 ≤ i) (h1 : i < 3) : [45, 60, 62].getD i.toNat 0 = 45 ∨ [45, 60, 62].getD i.toNat 0 = 60 ∨ [45, 60, 62].getD i.toNat 0 = 62 := by
  obtain ⟨j, rfl⟩ := Int.eq_ofNat_of_zero_le h0
  have : j = 0 ∨ j = 1 ∨ j = 2 := by omega
  rcases this with rfl | rfl | rfl <;> simp
def Hold2 (P : Prop) : Prop := P
theorem stopHere2 {P : Prop} (h : Hold2 P) : P := h
local macro_rules | `(tactic| walk_at "setItem ref int") => `(tactic| (refine stopHere2 ?_))
local macro_rules | `(tactic| walk_at "pyIter ref") => `(tactic| (refine stopHere2 ?_))
local macro_rules | `(tactic| walk_at "exec For Name Name cons nil") => `(tactic| ((rename Fr _ _ _ _ => lF'); (with_unfolding_all refine' For_invVF lF' ?k1 ?k2 ?_; (case k1 => exact rfl); (case k2 => exact rfl); k_whole)))
local macro_rules | `(tactic| walk_at "subscriptTail Name Slice str ref") => `(tactic| ((with_reducible rename Fr _ _ _ _ => F'); (with_reducible rename News _ _ _ _ => N'); k_dflt (refine' s_fromAny (s := ⟨_, _, _, _, _⟩) F' N' ?c ?_; (case c => omega)); intro h' t' k' F' N'; (try k_sweep)))
local macro_rules | `(tactic| k_all) => `(tactic| assumption)
local macro_rules | `(tactic| walk_at "call type:enumerate cons nil") => `(tactic| (refine stopHere2 ?_))
local macro_rules | `(tactic| walk_at "call type:enumerate") => `(tactic| (refine stopHere2 ?_))
local macro_rules | `(tactic| walk_at "exec For Tuple Call cons nil") => `(tactic| ((rename Fr _ _ _ _ => lF'); (with_unfolding_all refine' For_turns lF' ?_; k_whole)))
def TextP (w : World) (news : List (Addr × Obj)) (l : Addr) (vs : List Value) (ns : List Int) (c : Cx) : Prop :=
  IntsAre vs ns → ns.length ≤ 63 → c.base.IsList l vs.toArray → Below c.A₀ c.base c.outer c.h₀ → Fr c.h₀ c.L c.s.heap c.m → (hd.heap_1 w.params).In c.h₀ → News c.h₀ c.L c.s.heap news → Top c.p c.loose c.mean c.mg c.mb c.h₀ → c.cs.kind = .function →
    c.dp + 4 ≤ 500 → c.un + 8 * 4 ≤ 500 → (Ret c.h₀ c.L c.m news c.s c.Q fun v news' => news' = news ∧ ∃ x t, v = .str (S x) t ∧ 1 ≤ x.length ∧ x.length ≤ 9 ∧ ∀ c ∈ x, c = 45 ∨ c = 60 ∨ c = 62) →
    wpAny (model prog w) (ktrTop c.dp c.un c.gd c.cn c.cs c.L c.a c.ccd c.cl c.outer) (call (.ref 159) [.ref l]) c.Q c.E c.s
namespace TxN
@[irreducible] noncomputable def ea : World × List (Addr × Obj) × Addr × List Value × List Int × Cx := worst (w0, [], 0, [], [], cx0) fun e => TextP e.1 e.2.1 e.2.2.1 e.2.2.2.1 e.2.2.2.2.1 e.2.2.2.2.2
@[irreducible] noncomputable def w : World := ea.1
@[irreducible] noncomputable def news : List (Addr × Obj) := ea.2.1
@[irreducible] noncomputable def l : Addr := ea.2.2.1
@[irreducible] noncomputable def vs : List Value := ea.2.2.2.1
@[irreducible] noncomputable def ns : List Int := ea.2.2.2.2.1
@[irreducible] noncomputable def cx : Cx := ea.2.2.2.2.2
set_option maxHeartbeats 4000000 in
noncomputable def sa : {P : Heap → Addr → Addr → Nat → Addr → List Value → Heap → Prop // Hid (∀ g' L' lc tk D ws h5, P g' L' lc tk D ws h5) → TextP w news l vs ns cx} := by
  refine' ⟨_, fun H => _⟩
  rotate_left
  · unfold TextP
    intro hi hlen hl B F X N T hk hdp hun hret
    refine wpAny_call ?_
    k_dflt ktr_enter
    rename_i g' L' h' FG' F' N' B' X' T'
    have hlg : g'.IsList l vs.toArray := stays_list B'.stays hl
    k_steps
    unfold Hold2
    rename_i lc h3 l0 h4 D ws h5 F1 N1 hws hC hL l1
    revert hi hlen hl B F X N T hk hdp hun hret FG' B' X' T' hlg l0 F1 N1 hws hC hL l1
    dsimp only
    exact H.out g' L' lc tk D ws h5
@[irreducible] noncomputable def eb : Heap × Addr × Addr × Nat × Addr × List Value × Heap := worst (hp0, 0, 0, 0, 0, [], hp0) fun e => sa.1 e.1 e.2.1 e.2.2.1 e.2.2.2.1 e.2.2.2.2.1 e.2.2.2.2.2.1 e.2.2.2.2.2.2
@[irreducible] noncomputable def g' : Heap := eb.1
@[irreducible] noncomputable def L' : Addr := eb.2.1
@[irreducible] noncomputable def lc : Addr := eb.2.2.1
@[irreducible] noncomputable def tk : Nat := eb.2.2.2.1
@[irreducible] noncomputable def D : Addr := eb.2.2.2.2.1
@[irreducible] noncomputable def ws : List Value := eb.2.2.2.2.2.1
@[irreducible] noncomputable def h5 : Heap := eb.2.2.2.2.2.2
set_option maxHeartbeats 4000000 in
theorem sb : sa.1 g' L' lc tk D ws h5 := by
  unfold sa
  dsimp only
  intro hi hlen hl B F X N T hk hdp hun hret FG' B' X' T' hlg l0 F1 N1 hws hC hL l1
  generalize hits : (#[Value.int 2 _, Value.int 4 _, Value.int 1 _, Value.int 3 _, Value.int 5 _, Value.int 0 _] : Array Value) = its at N1
  have hia : IntsAre its.toList [2, 4, 1, 3, 5, 0] := by
    rw [← hits]
    l_ints
  clear hits
  generalize hm0 : (fun y => if y = Str.ofString "cells" then some (Value.ref lc) else _) = m₀ at F1
  refine gen_enum (vs := ws.toArray) (nn := 0) (fun i m nx => ∃ its n ms, nx = (lc, listOf its n) :: (D, listOf ws.toArray 0) :: news ∧ IntsAre its.toList ms ∧ ms.length = 6 ∧ ∀ z, z ≠ Str.ofString "place" → z ≠ Str.ofString "x" → m z = m₀ z)
    rfl (.tail _ (.head _)) F1 ?_ ⟨its, 0, _, rfl, hia, rfl, fun z _ _ => rfl⟩ ?_ ?_ ?_
  · exact fun p hp => N1 p (by simp only [List.mem_cons] at hp ⊢; grind)
  · rintro i m nx ⟨its, n, ms, rfl, _⟩
    exact .tail _ (.head _)
  · rintro i v t x T m₁ nx h tk' I1 I2 o1 o2 hx rfl hT hoff ⟨its, n, ms, rfl, him, hms, hmm⟩ F2 N2
    clear F1 N1
    obtain ⟨k, tx, rfl, hk⟩ := hws.at i x (by simpa using hx)
    have em : m₁ = fun y => if y = Str.ofString "place" then m₁ (Str.ofString "place") else if y = Str.ofString "x" then m₁ (Str.ofString "x") else m₀ y := by
      funext y
      by_cases h1 : y = Str.ofString "place"
      · rw [if_pos h1, h1]
      · by_cases h2 : y = Str.ofString "x"
        · rw [if_neg h1, if_pos h2, h2]
        · rw [if_neg h1, if_neg h2]; exact hmm y h1 h2
    rw [em] at F2
    subst hm0
    have hnl : ∀ p ∈ news, p.1 ≠ lc := fun p hp => Nat.ne_of_lt (l0 p hp)
    have hi1 : lc ≠ I1 := (hoff _ (.head _)).1
    have hi2 : lc ≠ I2 := (hoff _ (.head _)).2
    have hDl : D ≠ lc := Nat.ne_of_gt l1.1
    have hnl2 : ∀ p ∈ (D, listOf ws.toArray 0) :: news, p.1 ≠ lc := List.forall_mem_cons.mpr ⟨hDl, hnl⟩
    k_steps
    unfold Hold2
    rename Fr g' L' _ _ => F3
    rename News g' L' _ _ => N3
    have hisz : its.toList.length = 6 := by rw [him.length, hms]
    have hf0 : 0 ≤ ((i : Int)).fmod 6 ∧ ((i : Int)).fmod 6 < 6 := ⟨Int.fmod_nonneg (by omega) (by decide), Int.fmod_lt_of_pos _ (by decide)⟩
    obtain ⟨hf1, hf2⟩ := hf0
    k_dflt refine ki_set (D := lc) F3 N3 hf1 (by omega) (setL_of (by omega)) (.tail hi1.symm (.tail hi2.symm (.head hnl2))) ?_
    intro h6 F4 N4
    clear F3 N3
    k_steps
    rename Fr g' L' _ _ => F5
    rename News g' L' _ _ => N5
    show EnumEnd _ _ _ _ _ _ _ _ _
    refine ⟨_, _, _, _, rfl, F5, N5, ?_, _, n, ms.set ((i : Int).fmod 6).toNat _, rfl, ints_set him _, by rw [List.length_set, hms], fun z h1 h2 => ?_⟩
    · refine List.forall_mem_cons.mpr ⟨⟨hi1, hi2⟩, fun p hp => hoff p (.tail _ hp)⟩
    · simp only [if_neg h1, if_neg h2]
  · rintro m₁ nx h tk' ⟨its, n, ms, rfl, him, hms, hmm⟩ F2 N2
    clear F1 N1
    have em : m₁ = fun y => if y = Str.ofString "place" then m₁ (Str.ofString "place") else if y = Str.ofString "x" then m₁ (Str.ofString "x") else m₀ y := by
      funext y
      by_cases h1 : y = Str.ofString "place"
      · rw [if_pos h1, h1]
      · by_cases h2 : y = Str.ofString "x"
        · rw [if_neg h1, if_pos h2, h2]
        · rw [if_neg h1, if_neg h2]; exact hmm y h1 h2
    rw [em] at F2
    subst hm0
    k_steps
    unfold Hold2
    rename Fr g' L' _ _ => F6
    rename News g' L' _ _ => N6
    clear em
    refine gen_list (σ := List Nat × Tok) (vs := its) (nn := n) (fun _ => (lc, listOf its n) :: (D, listOf ws.toArray 0) :: news) (fun c' => [(Str.ofString "text", Value.str (S c'.1) c'.2)]) (fun _ => True) ["text"]
      (fun j c' => 1 ≤ c'.1.length ∧ c'.1.length ≤ 1 + 3 * j ∧ ∀ c ∈ c'.1, c = 45 ∨ c = 60 ∨ c = 62) ([60], _) rfl (fun _ => .head _) F6 N6 trivial (List.forall_mem_cons.mpr ⟨rfl, List.forall_mem_nil _⟩) ?_ ?_ ?_
    · exact ⟨Nat.le_refl _, Nat.le_refl _, by simp⟩
    · rintro ⟨cw, ct⟩ j v u' I2 h2 tk2 o2 hv hI2 _ ⟨hw1, hw2, hw3⟩ F15 N15
      clear F6 N6
      dsimp only at F15 N15 hw1 hw2 hw3
      have hisz : its.toList.length = 6 := by rw [him.length, hms]
      have hj6 : j < 6 := by
        obtain ⟨hj, _⟩ := Array.getElem?_eq_some_iff.mp hv
        rw [← Array.length_toList] at hj
        omega
      obtain ⟨c, tc, rfl, hc⟩ := him.at j v (by simpa using hv)
      have hc0 : 0 ≤ c.fmod 6 ∧ c.fmod 6 < 6 := ⟨Int.fmod_nonneg_of_pos _ (by decide), Int.fmod_lt_of_pos _ (by decide)⟩
      obtain ⟨hc1, hc2⟩ := hc0
      k_steps
      · dsimp only
        rw [lit_signs hc1 (by omega)]
        k_dflt refine s_iadd (by simp only [List.length_cons, List.length_nil]; omega) ?_
        intro t9 tk9
        k_steps
        rename Fr g' L' _ _ => F16
        rename News g' L' _ _ => N16
        show GenEnd _ _ _ _ _ _ _
        refine gen_end (cw ++ [[45, 60, 62].getD (c.fmod 6).toNat 0], _) F16 N16 (.head _) (fun p hp => .tail _ hp) hI2 trivial (List.forall_mem_cons.mpr ⟨rfl, List.forall_mem_nil _⟩) ?_ ⟨?_, ?_, ?_⟩
        · intro z h1 h2 h3
          have hz : z ≠ Str.ofString "text" := h2 _ (.head _)
          simp only [kstB, if_neg hz, if_neg h1, h3, Bool.false_eq_true, if_false]
        · show 1 ≤ (cw ++ [_]).length
          rw [List.length_append]; omega
        · show (cw ++ [_]).length ≤ _
          rw [List.length_append, List.length_singleton]; omega
        · intro d hd
          rcases List.mem_append.mp hd with hd | hd
          · exact hw3 d hd
          · rw [List.mem_singleton.mp hd]; exact lit_signs_in hc1 (by omega)
      · dsimp only
        k_dflt refine s_iadd (by rw [List.length_drop]; omega) ?_
        intro t9 tk9
        k_steps
        rename Fr g' L' _ _ => F16
        rename News g' L' _ _ => N16
        show GenEnd _ _ _ _ _ _ _
        refine gen_end (cw ++ cw.drop _, _) F16 N16 (.head _) (fun p hp => .tail _ hp) hI2 trivial (List.forall_mem_cons.mpr ⟨rfl, List.forall_mem_nil _⟩) ?_ ⟨?_, ?_, ?_⟩
        · intro z h1 h2 h3
          have hz : z ≠ Str.ofString "text" := h2 _ (.head _)
          simp only [kstB, if_neg hz, if_neg h1, h3, Bool.false_eq_true, if_false]
        · show 1 ≤ (cw ++ _).length
          rw [List.length_append]; omega
        · show (cw ++ _).length ≤ _
          rw [List.length_append, List.length_drop]
          split <;> omega
        · intro d hd
          rcases List.mem_append.mp hd with hd | hd
          · exact hw3 d hd
          · exact hw3 d (List.mem_of_mem_drop hd)
    · rintro ⟨cw, ct⟩ u' h2 tk2 _ ⟨hw1, hw2, hw3⟩ F15 N15
      clear F6 N6
      dsimp only at F15 N15 hw1 hw2 hw3
      have hisz : its.size = 6 := by rw [← Array.length_toList, him.length, hms]
      k_steps
      rename Fr g' L' _ _ => F16
      rename News g' L' _ _ => N16
      dsimp only
      k_dflt refine s_toAny (s := ⟨_, _, _, _, _⟩) (j := 9) F16 N16 (by omega) ?_
      intro h9 t9 tk9 F17 N17
      clear F16 N16
      k_steps
      rename News _ _ _ _ => kN
      refine hret _ _ _ _ (by k_asm) (fun p hp => kN p (.tail _ (.tail _ hp))) ⟨rfl, cw.take 9, _, rfl, ?_, ?_, fun c hc => hw3 c (List.mem_of_mem_take hc)⟩
      · rw [List.length_take]; omega
      · rw [List.length_take]; omega
end TxN
theorem text_claim (w : World) (news : List (Addr × Obj)) (l : Addr) (vs : List Value) (ns : List Int) (hi : IntsAre vs ns) (hlen : ns.length ≤ 63) (p : Program) (loose : List Str) (mean : ExcName → Option Value) (mg mb : Str → Option Value)
    (dp un : Nat) (gd : Option (List Code)) (cn : Str) (cs : Scope) (a : Addr) (ccd : Value) (cl : List (Str × Addr)) (outer : List Env) (A₀ : Around) (base h₀ : Heap) (L : Addr) (m : Str → Option Value) (s : Shared) (Q E : Value → Shared → Prop)
    (hl : base.IsList l vs.toArray) (B : Below A₀ base outer h₀) (F : Fr h₀ L s.heap m) (X : (hd.heap_1 w.params).In h₀) (N : News h₀ L s.heap news) (T : Top p loose mean mg mb h₀) (hk : cs.kind = .function)
    (hdp : dp + 4 ≤ 500) (hun : un + 8 * 4 ≤ 500) (hret : Ret h₀ L m news s Q fun v news' => news' = news ∧ ∃ x t, v = .str (S x) t ∧ 1 ≤ x.length ∧ x.length ≤ 9 ∧ ∀ c ∈ x, c = 45 ∨ c = 60 ∨ c = 62) :
    wpAny (model prog w) (ktrTop dp un gd cn cs L a ccd cl outer) (call (.ref 159) [.ref l]) Q E s :=
  of_worst (P := fun e => TextP e.1 e.2.1 e.2.2.1 e.2.2.2.1 e.2.2.2.2.1 e.2.2.2.2.2) (c := TxN.ea) (by with_unfolding_all rfl) (by with_unfolding_all exact TxN.sa.2 (.mk fun a0_0 a0_1 a0_2 a0_3 a0_4 a0_5 a0_6 => of_worst (P := fun e => TxN.sa.1 e.1 e.2.1 e.2.2.1 e.2.2.2.1 e.2.2.2.2.1 e.2.2.2.2.2.1 e.2.2.2.2.2.2) (c := TxN.eb) (by with_unfolding_all rfl) (by with_unfolding_all exact TxN.sb) (a0_0, a0_1, a0_2, a0_3, a0_4, a0_5, a0_6))) (w, news, l, vs, ns, ⟨p, loose, mean, mg, mb, dp, un, gd, cn, cs, a, ccd, cl, outer, A₀, base, h₀, L, m, s, Q, E⟩) hi hlen hl B F X N T hk hdp hun hret
end Mine
end

section
open PySem PySem.W PyProof.Rows
set_option maxRecDepth 100000
namespace Mine
theorem fillK16 : PySem.Challenge.rw_xp0017_01 = PySem.Challenge.rw_xp0017_01 ∧ hd.heap_1 = hd.heap_1 := by
  w_top off
  k_fill
  exact ⟨rfl, rfl⟩
def Hold3 (P : Prop) : Prop := P
theorem stopHere3 {P : Prop} (h : Hold3 P) : P := h
local macro_rules | `(tactic| walk_at "pyIter ref") => `(tactic| (refine stopHere3 ?_))
local macro_rules | `(tactic| walk_at "setItem ref int") => `(tactic| (refine stopHere3 ?_))
local macro_rules | `(tactic| walk_at "call type:bytes") => `(tactic| (refine stopHere3 ?_))
theorem range_self {n : Nat} (h0 : 1 ≤ n) : Builtin.Range.rangeSize 0 (n : Int) (n : Int) = ((1 : Nat) : Int) := by
  unfold Builtin.Range.rangeSize
  rw [if_pos (by omega), if_pos (by omega), Int.ediv_eq_zero_of_lt (by omega) (by omega)]
  rfl
theorem small_self {n : Nat} (h0 : 1 ≤ n) (h9 : n ≤ 9) : Builtin.Range.small 0 (n : Int) (n : Int) = true := by
  unfold Builtin.Range.small
  rw [range_self h0]
  simp only [Builtin.Range.rangeFitsLong, Bool.and_eq_true, Bool.or_eq_true, decide_eq_true_eq, beq_iff_eq, if_pos (show (n : Int) > 0 by omega)]
  omega
def SwapP (w : World) (news : List (Addr × Obj)) (b : Array UInt8) (l : List Int) (t1 t2 : Tok) (c : Cx) : Prop :=
  KBw.bInts b = l → l.length ≤ 9 → 1 ≤ l.length → Below c.A₀ c.base c.outer c.h₀ → Fr c.h₀ c.L c.s.heap c.m → (hd.heap_1 w.params).In c.h₀ → News c.h₀ c.L c.s.heap news → Top c.p c.loose c.mean c.mg c.mb c.h₀ → c.cs.kind = .function →
    c.dp + 4 ≤ 500 → c.un + 8 * 4 ≤ 500 → (Ret c.h₀ c.L c.m news c.s c.Q fun v news' => news' = news ∧ ∃ b' t, v = .bytes b' t ∧ KBw.bInts b' = l.reverse) →
    wpC (model prog w) (ktrTop c.dp c.un c.gd c.cn c.cs c.L c.a c.ccd c.cl c.outer) (call (.ref 152) [.bytes b t1, .int l.length t2]) c.Q c.E c.s
namespace SwN
@[irreducible] noncomputable def ea : World × List (Addr × Obj) × Array UInt8 × List Int × Tok × Tok × Cx := worst (w0, [], #[], [], 0, 0, cx0) fun e => SwapP e.1 e.2.1 e.2.2.1 e.2.2.2.1 e.2.2.2.2.1 e.2.2.2.2.2.1 e.2.2.2.2.2.2
@[irreducible] noncomputable def w : World := ea.1
@[irreducible] noncomputable def news : List (Addr × Obj) := ea.2.1
@[irreducible] noncomputable def b : Array UInt8 := ea.2.2.1
@[irreducible] noncomputable def l : List Int := ea.2.2.2.1
@[irreducible] noncomputable def t1 : Tok := ea.2.2.2.2.1
@[irreducible] noncomputable def t2 : Tok := ea.2.2.2.2.2.1
@[irreducible] noncomputable def cx : Cx := ea.2.2.2.2.2.2
set_option maxHeartbeats 4000000 in
noncomputable def sa : {P : Heap → Addr → Addr → Heap → Heap → Nat → Heap → Nat → Tok → Tok → Tok → Prop // Hid (∀ g' L' x h2 h4 tk h5 tk5 ta ua va, P g' L' x h2 h4 tk h5 tk5 ta ua va) → SwapP w news b l t1 t2 cx} := by
  refine' ⟨_, fun H => _⟩
  rotate_left
  · unfold SwapP
    intro hb hl hl0 B F X N T hk hdp hun hret
    refine wpC_call ?_
    (k_dflt (refine' codeC_def ?k1 ?k2 ?k3 ?k4 ?k5 ?kA ?kF ?kK ?k6 ?k7 ?k8 ?k9 ?kB ?_ ?c2 ?c3 ?c4 ?c5; (case kA => exact rfl); (case kF => exact rfl); (case kK => assumption); (case k1 => k_asm); (case k2 => k_asm); (case k3 => k_asm); (case k4 => k_asm); (case k5 => k_asm); (case k6 => k_is); (case k7 => k_is); (case k8 => ktr_room); (case k9 => exact BindsTo.of_eq rfl); (case c5 => decide); (case kB => exact locs rfl); (case c2 => exact rfl); (case c3 => exact rfl); (case c4 => exact rfl); k_whole; intro g' L' h' FG' F' N' B' X' T'; (try dsimp only); (try k_fold)))
    refine wpC_execs_cons (wpC_Assign_Name (wpC_Call_Name rfl ?_))
    k_steps
    refine callWithC_T ?_
    k_steps
    rename Fr g' L' _ _ => F1
    rename News g' L' _ _ => N1
    refine ba_make F1 N1 (by omega) (by omega) ?_
    intro x h2 F2 N2 l2
    clear F1 N1
    k_steps
    refine wpC_of ?_
    k_steps
    unfold Hold3
    rename_i h4 F4 N4 h5 tk5 ta ua va rg F5 N5 k5
    clear F4 N4 k5
    revert hb hl hl0 B F X N T hk hdp hun hret FG' B' X' T' l2 rg F5 N5
    exact H.out g' L' x h2 h4 tk h5 tk5 ta ua va
@[irreducible] noncomputable def eb : Heap × Addr × Addr × Heap × Heap × Nat × Heap × Nat × Tok × Tok × Tok := worst (hp0, 0, 0, hp0, hp0, 0, hp0, 0, 0, 0, 0) fun e => sa.1 e.1 e.2.1 e.2.2.1 e.2.2.2.1 e.2.2.2.2.1 e.2.2.2.2.2.1 e.2.2.2.2.2.2.1 e.2.2.2.2.2.2.2.1 e.2.2.2.2.2.2.2.2.1 e.2.2.2.2.2.2.2.2.2.1 e.2.2.2.2.2.2.2.2.2.2
@[irreducible] noncomputable def g' : Heap := eb.1
@[irreducible] noncomputable def L' : Addr := eb.2.1
@[irreducible] noncomputable def x : Addr := eb.2.2.1
@[irreducible] noncomputable def h2 : Heap := eb.2.2.2.1
@[irreducible] noncomputable def h4 : Heap := eb.2.2.2.2.1
@[irreducible] noncomputable def tk : Nat := eb.2.2.2.2.2.1
@[irreducible] noncomputable def h5 : Heap := eb.2.2.2.2.2.2.1
@[irreducible] noncomputable def tk5 : Nat := eb.2.2.2.2.2.2.2.1
@[irreducible] noncomputable def ta : Tok := eb.2.2.2.2.2.2.2.2.1
@[irreducible] noncomputable def ua : Tok := eb.2.2.2.2.2.2.2.2.2.1
@[irreducible] noncomputable def va : Tok := eb.2.2.2.2.2.2.2.2.2.2
set_option maxHeartbeats 4000000 in
theorem sb : sa.1 g' L' x h2 h4 tk h5 tk5 ta ua va := by
  unfold sa
  dsimp only
  intro hb hl hl0 B F X N T hk hdp hun hret FG' B' X' T' l2 rg F5 N5
  have hbl : b.size = l.length := by rw [← hb, KBw.ints_length]
  refine gen_range (σ := Array UInt8) (n := 1) (fun c => (x, baObj c) :: news) (fun _ => []) (fun _ => True) ["j"] (fun i c => c.size = l.length ∧ (i = 1 → ∀ y, y < l.length → c[l.length - 1 - y]? = b[y]?)) (Array.replicate l.length 0)
    rfl rg (small_self hl0 hl) (range_self hl0) F5 N5 trivial (by simp) ⟨by simp, fun h => absurd h (by decide)⟩ ?_ ?_
  · intro c i ti u I h tk o' hi hI _ hPc F7 N7
    clear F5 N5
    obtain rfl : i = 0 := by omega
    obtain ⟨hcs, _⟩ := hPc
    have hxI : x ≠ I := hI _ (.head _)
    have e0 : (0 : Int) + ((0 : Nat) : Int) * (l.length : Int) = 0 := by simp
    rw [e0] at F7
    k_steps
    unfold Hold3
    rename_i h8 tk8 tb ub vb rg2 F8 N8 k8
    clear k8
    refine gen_range (σ := Array UInt8) (n := l.length) (fun c => (I, o') :: (x, baObj c) :: news) (fun _ => []) (fun _ => True) [] (fun j c => c.size = l.length ∧ ∀ y, y < j → c[l.length - 1 - y]? = b[y]?) c
      rfl rg2 (small_one (by omega) (by omega) (by omega) (by omega)) (by rw [rangeSize_nat]; omega) F8 N8 trivial (by simp) ⟨hcs, fun y h => absurd h (Nat.not_lt_zero _)⟩ ?_ ?_
    · intro c2 j tj u2 I2 h9 tk9 o2 hj hI2 _ hPj F9 N9
      clear F8 N8
      obtain ⟨hcs2, hcj⟩ := hPj
      have hxI2 : x ≠ I2 := hI2 _ (.tail _ (.head _))
      have ej : (0 : Int) + (j : Int) * 1 = (j : Int) := by omega
      rw [ej] at F9
      k_steps
      unfold Hold3
      rename Fr g' L' _ _ => F10
      rename News g' L' _ _ => N10
      have hjb : j < b.size := by omega
      have hv : l.getD ((0 : Int) + (j : Int)).toNat 0 = ((b[j].toNat : Nat) : Int) := by
        rw [← hb, show ((0 : Int) + (j : Int)).toNat = j by omega]
        simp [KBw.bInts, hjb]
      rw [hv]
      have hoffx : ∀ p ∈ news, p.1 ≠ x := fun p hp => Nat.ne_of_lt (l2 p hp)
      k_dflt refine ba_setItem F10 N10 (by omega) (by omega) (by omega) b[j].toNat_lt (.tail (Ne.symm hxI2) (.tail (Ne.symm hxI) (.head hoffx))) ?_
      intro h11 F11 N11
      clear F10 N10
      k_steps
      rename Fr g' L' _ _ => F12
      rename News g' L' _ _ => N12
      show GenEnd _ _ _ _ _ _ _
      refine gen_end (c2.setIfInBounds ((0 : Int) + (l.length : Int) - 1 - (j : Int)).toNat b[j].toNat.toUInt8) F12 N12 (.head _) (fun p hp => .tail _ hp) ?_ trivial (List.forall_mem_nil _) ?_ ⟨?_, ?_⟩
      · exact List.forall_mem_cons.mpr ⟨hI2 _ (.head _), List.forall_mem_cons.mpr ⟨hxI2, fun p hp => hI2 p (.tail _ (.tail _ hp))⟩⟩
      · intro z h1 h2 h3
        simp [kstB, h1]
      · rw [Array.size_setIfInBounds]; exact hcs2
      · intro y hy
        have hk : ((0 : Int) + (l.length : Int) - 1 - (j : Int)).toNat = l.length - 1 - j := by omega
        rw [hk, Array.getElem?_setIfInBounds]
        by_cases hyj : y = j
        · subst hyj
          rw [if_pos rfl, if_pos (by omega)]
          simp [hjb]
        · rw [if_neg (by omega)]
          exact hcj y (by omega)
    · intro c2 u2 h9 tk9 _ hPj F9 N9
      clear F8 N8
      obtain ⟨hcs2, hcj⟩ := hPj
      k_steps
      rename Fr g' L' _ _ => F10
      rename News g' L' _ _ => N10
      show GenEnd _ _ _ _ _ _ _
      refine gen_end c2 F10 N10 (.head _) (fun p hp => .tail _ hp) ?_ trivial (List.forall_mem_nil _) ?_ ⟨hcs2, fun _ => hcj⟩
      · exact List.forall_mem_cons.mpr ⟨hxI, fun p hp => hI p (.tail _ hp)⟩
      · intro z h1 h2 h3
        have hz : z ≠ Str.ofString "j" := by intro e; subst e; revert h3; decide
        simp [kstB, h1, hz, h3]
  · intro c u h tk _ hPc F7 N7
    clear F5 N5
    obtain ⟨hcs, hcr⟩ := hPc
    k_steps
    unfold Hold3
    rename Fr g' L' _ _ => F11
    rename News g' L' _ _ => N11
    refine ba_bytes ((N11 _ (.head _)).1) (by omega) ?_
    intro t9 k9
    k_steps
    rename News cx.h₀ cx.L _ _ => kN
    refine hret _ _ _ _ (by k_asm) (fun p hp => kN p (.tail _ hp)) ⟨rfl, c, t9, rfl, ?_⟩
    have hc' : c.toList = b.toList.reverse := by
      apply List.ext_getElem?
      intro i
      by_cases hi : i < l.length
      · rw [List.getElem?_reverse (by rw [Array.length_toList]; omega), Array.length_toList, hbl, Array.getElem?_toList, Array.getElem?_toList, ← hcr rfl (l.length - 1 - i) (by omega), show l.length - 1 - (l.length - 1 - i) = i by omega]
      · rw [List.getElem?_eq_none (by rw [Array.length_toList]; omega), List.getElem?_eq_none (by rw [List.length_reverse, Array.length_toList]; omega)]
    rw [← hb]
    unfold KBw.bInts
    rw [hc', List.map_reverse]
end SwN
theorem swap_claim (w : World) (news : List (Addr × Obj)) (b : Array UInt8) (l : List Int) (hb : KBw.bInts b = l) (hl : l.length ≤ 9) (hl0 : 1 ≤ l.length) (t1 t2 : Tok) (p : Program) (loose : List Str) (mean : ExcName → Option Value) (mg mb : Str → Option Value)
    (dp un : Nat) (gd : Option (List Code)) (cn : Str) (cs : Scope) (a : Addr) (ccd : Value) (cl : List (Str × Addr)) (outer : List Env) (A₀ : Around) (base h₀ : Heap) (L : Addr) (m : Str → Option Value) (s : Shared) (Q E : Value → Shared → Prop)
    (B : Below A₀ base outer h₀) (F : Fr h₀ L s.heap m) (X : (hd.heap_1 w.params).In h₀) (N : News h₀ L s.heap news) (T : Top p loose mean mg mb h₀) (hk : cs.kind = .function)
    (hdp : dp + 4 ≤ 500) (hun : un + 8 * 4 ≤ 500) (hret : Ret h₀ L m news s Q fun v news' => news' = news ∧ ∃ b' t, v = .bytes b' t ∧ KBw.bInts b' = l.reverse) :
    wpC (model prog w) (ktrTop dp un gd cn cs L a ccd cl outer) (call (.ref 152) [.bytes b t1, .int l.length t2]) Q E s :=
  of_worst (P := fun e => SwapP e.1 e.2.1 e.2.2.1 e.2.2.2.1 e.2.2.2.2.1 e.2.2.2.2.2.1 e.2.2.2.2.2.2) (c := SwN.ea) (by with_unfolding_all rfl) (by with_unfolding_all exact SwN.sa.2 (.mk fun a0_0 a0_1 a0_2 a0_3 a0_4 a0_5 a0_6 a0_7 a0_8 a0_9 a0_10 => of_worst (P := fun e => SwN.sa.1 e.1 e.2.1 e.2.2.1 e.2.2.2.1 e.2.2.2.2.1 e.2.2.2.2.2.1 e.2.2.2.2.2.2.1 e.2.2.2.2.2.2.2.1 e.2.2.2.2.2.2.2.2.1 e.2.2.2.2.2.2.2.2.2.1 e.2.2.2.2.2.2.2.2.2.2) (c := SwN.eb) (by with_unfolding_all rfl) (by with_unfolding_all exact SwN.sb) (a0_0, a0_1, a0_2, a0_3, a0_4, a0_5, a0_6, a0_7, a0_8, a0_9, a0_10))) (w, news, b, l, t1, t2, ⟨p, loose, mean, mg, mb, dp, un, gd, cn, cs, a, ccd, cl, outer, A₀, base, h₀, L, m, s, Q, E⟩) hb hl hl0 B F X N T hk hdp hun hret
end Mine
end

section
open PySem PySem.W PySem.Calls PyProof.Rows PyProof.Rows.LCg
set_option maxRecDepth 100000
namespace Mine
section
variable {prog : Program} {w : World} {A : Around} {E : Value → Shared → Prop} {s : Shared} {env : Env} {h₀ : Heap} {L : Addr} {m : Str → Option Value}
/-- [elt for c in text], the text all below 128 -/
theorem comp_str (_hF : Fr h₀ L s.heap m) {elt iter : Expr} {x : Str} {px : Pos} {scope : Scope} {cl : List (Str × Addr)} {pos : Pos} {Q : Value → Shared → Prop}
    (hclos : closureFor scope env = pure cl) (hcell : ∀ y ∈ scope.names, y.2 ≠ .cell) (hkind : scope.kind = .function)
    (hnames : ∀ y ∈ scope.names, y.2 = .local → scope.names.lookup y.1 = some .local) (hx : scope.names.lookup x = some .local) (hh : A.handled = none)
    (h : wpAny (model prog w) A (eval iter env) (fun xv s₁ => ∃ y t news, xv = .str y t ∧ y.cps.all (· < 128) = true ∧ y.cps.size ≤ sizeLine ∧ Fr h₀ L s₁.heap m ∧ News h₀ L s₁.heap news ∧
      ∀ s₂ : Shared, (∃ h, s₂ = { s₁ with heap := h }) → CompRest prog w A h₀ L m env elt x scope cl s₂ (fun _ => True) (SignAt y) (FinE h₀ L m s₂ Q) y.cps.size 0 [] news) E s)
    (hs : ∀ x, foldedSetIterable iter env x = pure x := by intro _; rfl) :
    wpAny (model prog w) A (eval (.ListComp elt [⟨.Name x px, iter, [], 0⟩] scope pos) env) Q E s := by
  rw [eval_ListComp]
  refine wpAny_comprehension_free (use := none) rfl hs hclos hkind hnames (wpAny_mono h (fun xv s₁ h₁ => ?_) fun _ _ e => e)
  obtain ⟨y, t, news, rfl, ha, hsz, F, N, R⟩ := h₁
  refine wpAny_pyIter_ascii ha ?_
  refine block_U (S := fun _ => True) (Walks.strAscii hh s₁.heap.objs.size y t) hsz (fun i h st => by obtain ⟨o, e, _⟩ := st; exact ⟨o, e⟩) ?_ hcell hkind hx ⟨_, Heap.get?_push_size _ rfl, rfl, rfl⟩ (fun b hb => ?_)
    (F.keeps fun _ _ e => Heap.get?_push_of_some _ e) (N.grown fun _ _ e => Heap.get?_push_of_some _ e) (Nat.ne_of_lt F.ns.lt) (next_is_new F) (fun p hp => Nat.ne_of_lt (Heap.lt_size (N p hp).1)) trivial (R _ ⟨_, rfl⟩) ?_
  · intro i h h' o nw st e e' _ _ _
    obtain ⟨o', q, r⟩ := st
    rw [e] at q; cases q
    exact ⟨o, e', r⟩
  · rw [List.mem_singleton.mp hb]
    show s₁.heap.objs.size < (s₁.heap.push _).objs.size
    rw [Heap.size_push]; exact Nat.lt_succ_self _
  · intro D C h tk m' ys news' F' N' o1 hn hC₀ hD₀ hCL hDL hCD offC fin
    refine ⟨m', hn, fun h'' hs'' => fin D h'' tk (F'.change hs'' hCL hC₀) (fun p hp => ?_) o1⟩
    refine ⟨hs''.extBut _ _ ?_ (N' p hp).1, (N' p hp).2⟩
    rcases List.mem_cons.mp hp with rfl | hp
    · exact Ne.symm hCD
    · exact offC p hp
end
end Mine
namespace Mine
def StrEl (news : List (Addr × Obj)) (r : PySem.Str) (y : Value) (news' : List (Addr × Obj)) : Prop := news' = news ∧ ∃ t : Tok, y = .str r t
section
variable {prog : Program} {w : World} {A : Around} {h₀ : Heap} {L : Addr} {m : Str → Option Value} {env : Env} {elt : Expr} {x : Str} {scope : Scope} {cl : List (Str × Addr)} {s : Shared} {S' : List (Addr × Obj) → Prop} {P : Nat → Value → Prop} {Fin : List Value → List (Addr × Obj) → Prop} {news : List (Addr × Obj)}
theorem strs_snoc {y : PySem.Str} {t : Tok} : ∀ {vs : List Value} {ys : List PySem.Str}, StrsAre vs ys → StrsAre (vs ++ [.str y t]) (ys ++ [y])
  | _, _, .nil => .cons y t .nil
  | _, _, .cons z u r => .cons z u (strs_snoc r)
theorem comp_rest {n : Nat} {ks : List Nat} (g : Nat → PySem.Str) (hks : ks.length = n) (hP : ∀ i v, i < n → P i v → ∃ k t, ks[i]? = some k ∧ v = .str ⟨#[k]⟩ t)
    (turn : ∀ k t I oI C oC D m₂ ys h tk (E' : Value → Shared → Prop), k ∈ ks → NsObj oC m₂ → m₂ x = some (.str ⟨#[k]⟩ t) → Fr h₀ L h m → News h₀ L h ((I, oI) :: (C, oC) :: (D, lst ys) :: news) → Off3 I C D news → ((@Ne Nat I C) ∧ (@Ne Nat I D) ∧ (@Ne Nat C D)) →
      wpAny (model prog w) A (eval elt (compEnvC scope cl C env)) (CompEnd h₀ L m { s with heap := h, toks := tk } I oI C oC D (lst ys) S' (fun y news' => StrEl news (g k) y news')) E' { s with heap := h, toks := tk })
    (fin : ∀ ys, StrsAre ys (ks.map g) → Fin ys news) : CompRest prog w A h₀ L m env elt x scope cl s S' P Fin n 0 [] news := by
  have key : ∀ (j i : Nat) (ys : List Value), i + j = n → StrsAre ys ((ks.take i).map g) → CompRest prog w A h₀ L m env elt x scope cl s S' P Fin j i ys news := by
    intro j
    induction j with
    | zero =>
      intro i ys hi hy
      have e : i = ks.length := by omega
      subst e
      rw [List.take_length] at hy
      exact CompRest.zero (fin ys hy)
    | succ j ih =>
      intro i ys hi hy
      refine CompRest.succ ?_
      intro v I oI C oC D m₂ h tk E' hv hC hx F N off ne
      obtain ⟨k, t, hk, hv'⟩ := hP i v (by omega) hv
      rw [hv'] at hx
      refine wpAny_mono (turn k t I oI C oC D m₂ ys h tk E' (List.mem_of_getElem? hk) hC hx F N off ne) (fun y s₂ hq => ?_) fun _ _ e => e
      obtain ⟨h', tk', nw, e, F', N', off', hS, hn, t', hy'⟩ := hq
      rw [hn] at N' off' hS
      refine ⟨h', tk', news, e, F', N', off', hS, ?_⟩
      rw [hy']
      refine ih (i + 1) _ (by omega) ?_
      rw [List.take_add_one, hk]
      simpa using strs_snoc hy
  exact key n 0 [] (by omega) (by simp only [List.take_zero, List.map_nil]; exact .nil)
end
section
variable {prog : Program} {w : World} {A : Around} {E : Value → Shared → Prop} {s : Shared} {cn : Str} {cs : Scope} {a : Addr} {ccd : Value} {ecl : List (Str × Addr)} {h₀ : Heap} {L : Addr} {m : Str → Option Value} {news : List (Addr × Obj)}
/-- [elt for c in page], page a local name that holds a text -/
theorem comp_name {elt : Expr} {x pg : Str} {px pp : Pos} {scope : Scope} {cl : List (Str × Addr)} {pos : Pos} {Q : Value → Shared → Prop} {l : List Nat} {t : Tok} (g : Nat → PySem.Str) (F : Fr h₀ L s.heap m) (N : News h₀ L s.heap news) (hv : m pg = some (.str ⟨l.toArray⟩ t))
    (hl : ∀ c ∈ l, c < 128) (hz : l.length ≤ 1000)
    (hclos : closureFor scope (envX cn cs L a ccd ecl) = pure cl) (hcell : ∀ y ∈ scope.names, y.2 ≠ .cell) (hkind : scope.kind = .function)
    (hnames : ∀ y ∈ scope.names, y.2 = .local → scope.names.lookup y.1 = some .local) (hx : scope.names.lookup x = some .local) (hh : A.handled = none)
    (hk : cs.kind = .function) (hkx : (envX cn cs L a ccd ecl).kindOf pg = some .local) (hd : (pg == ("__debug__" : Str)) = false)
    (turn : ∀ k t I oI C oC D m₂ ys h' tk (E' : Value → Shared → Prop), k ∈ l → NsObj oC m₂ → m₂ x = some (.str ⟨#[k]⟩ t) → Fr h₀ L h' m → News h₀ L h' ((I, oI) :: (C, oC) :: (D, lst ys) :: news) → Off3 I C D news → ((@Ne Nat I C) ∧ (@Ne Nat I D) ∧ (@Ne Nat C D)) →
      wpAny (model prog w) A (eval elt (compEnvC scope cl C (envX cn cs L a ccd ecl))) (CompEnd h₀ L m { s with heap := h', toks := tk } I oI C oC D (lst ys) (fun _ => True) (fun y news' => StrEl news (g k) y news')) E' { s with heap := h', toks := tk })
    (fin : ∀ D h tk ys, StrsAre ys (l.map g) → Fr h₀ L h m → News h₀ L h ((D, lst ys) :: news) → (∀ p ∈ news, p.1 ≠ D) → Q (.ref D) { s with heap := h, toks := tk })
    (hs : ∀ x, foldedSetIterable (.Name pg pp) (envX cn cs L a ccd ecl) x = pure x := by intro _; rfl) :
    wpAny (model prog w) A (eval (.ListComp elt [⟨.Name x px, .Name pg pp, [], 0⟩] scope pos) (envX cn cs L a ccd ecl)) Q E s := by
  refine comp_str F hclos hcell hkind hnames hx hh (nameX_L F hv ?_ hk hkx hd) hs
  refine ⟨_, t, news, rfl, ?_, ?_, F, N, ?_⟩
  · simpa using hl
  · show l.toArray.size ≤ _
    rw [List.size_toArray, sizeLine_eq]; omega
  · rintro s₂ ⟨h₂, rfl⟩
    refine comp_rest (ks := l) g (by simp) ?_ (fun k t I oI C oC D m₂ ys h tk E' a1 a2 a3 a4 a5 a6 a7 => turn k t I oI C oC D m₂ ys h tk E' a1 a2 a3 a4 a5 a6 a7) ?_
    · intro i v hi hv
      have hi' : i < l.length := by simpa using hi
      obtain ⟨c, t', hc, e⟩ := hv
      exact ⟨c, t', by simpa using hc, e⟩
    · intro ys hys
      unfold FinE
      intro D' h' tk' F' N' o1
      refine fin D' h' tk' ys hys F' N' ?_
      clear N N' fin turn
      induction news with
      | nil => intro p hp; cases hp
      | cons q r ih =>
        intro p hp
        rcases List.mem_cons.mp hp with rfl | hp
        · exact o1.1
        · exact ih o1.2 p hp
end
end Mine
end

section
namespace Mine
/-- the word of f from i on is less than that from j on: by the first place where they differ -/
def Less (f : Nat → Nat) (i j : Nat) : Prop := ∃ x, (∀ y, y < x → f (i + y) = f (j + y)) ∧ f (i + x) < f (j + x)
theorem Less.irrefl {f : Nat → Nat} {i : Nat} : ¬ Less f i i := fun ⟨_, _, h⟩ => Nat.lt_irrefl _ h
theorem Less.trans {f : Nat → Nat} {i j k : Nat} (h1 : Less f i j) (h2 : Less f j k) : Less f i k := by
  obtain ⟨x, a1, b1⟩ := h1
  obtain ⟨y, a2, b2⟩ := h2
  rcases Nat.lt_trichotomy x y with h | h | h
  · exact ⟨x, fun z hz => (a1 z hz).trans (a2 z (Nat.lt_trans hz h)), a2 x h ▸ b1⟩
  · subst h
    exact ⟨x, fun z hz => (a1 z hz).trans (a2 z hz), Nat.lt_trans b1 b2⟩
  · exact ⟨y, fun z hz => (a1 z (Nat.lt_trans hz h)).trans (a2 z hz), a1 y h ▸ b2⟩
theorem Less.asymm {f : Nat → Nat} {i j : Nat} (h1 : Less f i j) (h2 : Less f j i) : False := (h1.trans h2).irrefl
theorem first_diff {f : Nat → Nat} {i j : Nat} : ∀ m, f (i + m) ≠ f (j + m) → ∃ x, x ≤ m ∧ (∀ y, y < x → f (i + y) = f (j + y)) ∧ f (i + x) ≠ f (j + x) := by
  intro m
  induction m using Nat.strongRecOn with
  | ind m ih =>
    intro h
    by_cases hx : ∃ y, y < m ∧ f (i + y) ≠ f (j + y)
    · obtain ⟨y, hy, hne⟩ := hx
      obtain ⟨x, h1, h2⟩ := ih y hy hne
      exact ⟨x, Nat.le_trans h1 (Nat.le_of_lt hy), h2⟩
    · exact ⟨m, Nat.le_refl _, fun y hy => Classical.byContradiction fun c => hx ⟨y, hy, c⟩, h⟩
theorem less_or {f : Nat → Nat} {i j m : Nat} (h : f (i + m) ≠ f (j + m)) : Less f i j ∨ Less f j i := by
  obtain ⟨x, _, h2, h3⟩ := first_diff m h
  rcases Nat.lt_or_gt_of_ne h3 with h | h
  · exact .inl ⟨x, h2, h⟩
  · exact .inr ⟨x, fun y hy => (h2 y hy).symm, h⟩
/-- the letters of a text of n signs: 0 past its end and nowhere else -/
def Ends (f : Nat → Nat) (n : Nat) : Prop := ∀ x, f x = 0 ↔ n ≤ x
theorem Ends.total {f : Nat → Nat} {n i j : Nat} (h : Ends f n) (hij : i < j) (hj : j ≤ n) : Less f i j ∨ Less f j i := by
  refine less_or (m := n - j) ?_
  have h1 : f (j + (n - j)) = 0 := (h _).mpr (by omega)
  have h2 : f (i + (n - j)) ≠ 0 := fun e => by have := (h _).mp e; omega
  rw [h1]; exact h2
/-- a common start may be struck off -/
theorem Less.strip {f : Nat → Nat} {i j b : Nat} (h : Less f i j) (he : ∀ y, y < b → f (i + y) = f (j + y)) : Less f (i + b) (j + b) := by
  obtain ⟨x, h1, h2⟩ := h
  have hx : b ≤ x := Nat.le_of_not_lt fun c => by have := he x c; omega
  refine ⟨x - b, fun y hy => ?_, ?_⟩
  · have := h1 (b + y) (by omega)
    rwa [← Nat.add_assoc, ← Nat.add_assoc] at this
  · rw [Nat.add_assoc, Nat.add_assoc, show b + (x - b) = x by omega]; exact h2
/-- e is where the word that starts at i ends: the next start whose rest is less -/
structure Word (f : Nat → Nat) (n i e : Nat) : Prop where
  lt : i < e
  le : e ≤ n
  mid : ∀ k, i < k → k < e → Less f i k
  stop : Less f e i
/-- a word's start is never also its end -/
theorem Word.unbordered {f : Nat → Nat} {n i e b : Nat} (w : Word f n i e) (h0 : 0 < b) (h1 : b < e - i) (he : ∀ y, y < b → f (i + y) = f (e - b + y)) : False := by
  have hlt := w.lt
  have h2 := w.mid (e - b) (by omega) (by omega)
  have h3 := h2.strip he
  rw [show e - b + b = e by omega] at h3
  have h4 := w.mid (i + b) (by omega) (by omega)
  exact (h4.trans h3).asymm w.stop
end Mine
end

section
namespace Mine
/-- b..e is a stretch of least period p, and no longer one is -/
structure IsRun (f : Nat → Nat) (n b e p : Nat) : Prop where
  pos : 1 ≤ p
  len : b + 2 * p ≤ e
  le : e ≤ n
  per : ∀ x, b ≤ x → x + p < e → f x = f (x + p)
  least : ∀ d, 1 ≤ d → d < p → ∃ x, b ≤ x ∧ x + d < e ∧ f x ≠ f (x + d)
  left : b = 0 ∨ f (b - 1) ≠ f (b - 1 + p)
  right : e = n ∨ f e ≠ f (e - p)
/-- what is told at a word's start k of length p is a run -/
theorem run_of_word {f : Nat → Nat} {n k p b e : Nat} (w : Word f n k (k + p)) (hb : b < k) (he : k + p ≤ e) (hen : e ≤ n) (h2 : b + 2 * p ≤ e) (hl : ∀ x, b ≤ x → x < k → f x = f (x + p)) (hr : ∀ x, k + p ≤ x → x < e → f x = f (x - p))
    (left : b = 0 ∨ f (b - 1) ≠ f (b - 1 + p)) (right : e = n ∨ f e ≠ f (e - p)) : IsRun f n b e p := by
  have hp : 1 ≤ p := by have := w.lt; omega
  refine ⟨hp, h2, hen, fun x h3 h4 => ?_, fun d hd hdp => ?_, left, right⟩
  · by_cases h : x < k
    · exact hl x h3 h
    · have := hr (x + p) (by omega) h4
      rw [Nat.add_sub_cancel] at this
      exact this.symm
  · refine Classical.byContradiction fun c => ?_
    have per : ∀ x, b ≤ x → x + d < e → f x = f (x + d) := fun x h3 h4 => Classical.byContradiction fun h => c ⟨x, h3, h4, h⟩
    refine w.unbordered (b := p - d) (by omega) (by omega) fun y hy => ?_
    rw [per (k + y) (by omega) (by omega)]
    congr 1
    omega
/-- two words at one place, one of them of one sign, are not both told -/
theorem one_told {f : Nat → Nat} {n k q : Nat} (w : Word f n k (k + q)) (hq : 2 ≤ q) (h1 : f (k - 1) = f k) (h2 : f (k - 1) = f (k - 1 + q)) (hk : 0 < k) : False := by
  refine w.unbordered (b := 1) (by omega) (by omega) fun y hy => ?_
  obtain rfl : y = 0 := by omega
  rw [Nat.add_zero, Nat.add_zero, ← h1, h2]
  congr 1
  omega
/-- the stretch of period p, told on and on -/
def Wheel (f : Nat → Nat) (b p x : Nat) : Nat := f (b + (x - b) % p)
theorem wheel_eq {f : Nat → Nat} {n b e p : Nat} (r : IsRun f n b e p) : ∀ x, b ≤ x → x < e → Wheel f b p x = f x := by
  intro x
  induction x using Nat.strongRecOn with
  | ind x ih =>
    intro h1 h2
    have hp := r.pos
    by_cases h : x < b + p
    · unfold Wheel
      rw [Nat.mod_eq_of_lt (by omega)]
      congr 1
      omega
    · have e1 := ih (x - p) (by omega) (by omega) (by omega)
      have e2 := r.per (x - p) (by omega) (by omega)
      rw [show x - p + p = x by omega] at e2
      rw [← e2, ← e1]
      unfold Wheel
      rw [show x - b = x - p - b + p by omega, Nat.add_mod_right]
theorem wheel_per {f : Nat → Nat} {b p x : Nat} (h : b ≤ x) : Wheel f b p (x + p) = Wheel f b p x := by
  unfold Wheel
  rw [show x + p - b = x - b + p by omega, Nat.add_mod_right]
/-- two starts of the wheel less than a turn apart differ -/
theorem wheel_diff {f : Nat → Nat} {n b e p : Nat} (r : IsRun f n b e p) {i d : Nat} (hi : b ≤ i) (hd : 1 ≤ d) (hdp : d < p) : ∃ m, Wheel f b p (i + m) ≠ Wheel f b p (i + d + m) := by
  refine Classical.byContradiction fun c => ?_
  have same : ∀ m, Wheel f b p (i + m) = Wheel f b p (i + d + m) := fun m => Classical.byContradiction fun h => c ⟨m, h⟩
  obtain ⟨x, h1, h2, h3⟩ := r.least d hd hdp
  apply h3
  rw [← wheel_eq r x h1 (by omega), ← wheel_eq r (x + d) (by omega) h2]
  have up : ∀ t y, b ≤ y → Wheel f b p (y + t * p) = Wheel f b p y := by
    intro t
    induction t with
    | zero => intro y _; simp
    | succ t ih =>
      intro y hy
      rw [show y + (t + 1) * p = y + t * p + p by rw [Nat.succ_mul]; omega, wheel_per (by omega)]
      exact ih y hy
  have hp := r.pos
  have big : i ≤ x + i * p := by
    have : i * 1 ≤ i * p := Nat.mul_le_mul_left i hp
    omega
  have := same (x + i * p - i)
  rw [show i + (x + i * p - i) = x + i * p by omega, show i + d + (x + i * p - i) = x + d + i * p by omega] at this
  rwa [up i x h1, up i (x + d) (by omega)] at this
end Mine
end

section
namespace Mine
theorem least_start {R : Nat → Nat → Prop} (tr : ∀ a b c, R a b → R b c → R a c) (lo : Nat) : ∀ m, 1 ≤ m → (∀ i j, lo ≤ i → i < j → j < lo + m → R i j ∨ R j i) → ∃ k, lo ≤ k ∧ k < lo + m ∧ ∀ j, lo ≤ j → j < lo + m → j ≠ k → R k j
  | 0, h, _ => absurd h (by omega)
  | 1, _, _ => ⟨lo, Nat.le_refl _, by omega, fun j h1 h2 h3 => absurd (by omega) h3⟩
  | m + 2, _, tot => by
    obtain ⟨k, h1, h2, h3⟩ := least_start tr lo (m + 1) (by omega) fun i j a b c => tot i j a b (by omega)
    rcases tot k (lo + (m + 1)) h1 (by omega) (by omega) with h | h
    · refine ⟨k, h1, by omega, fun j a b c => ?_⟩
      by_cases hj : j < lo + (m + 1)
      · exact h3 j a hj c
      · rw [show j = lo + (m + 1) by omega]; exact h
    · refine ⟨lo + (m + 1), by omega, by omega, fun j a b c => ?_⟩
      by_cases hjk : j = k
      · rw [hjk]; exact h
      · exact tr _ _ _ h (h3 j a (by omega) hjk)
theorem less_shift {T : Nat → Nat} {i j p : Nat} (h : ∀ y, T (j + p + y) = T (j + y)) : Less T i (j + p) ↔ Less T i j := by
  constructor <;> rintro ⟨x, h1, h2⟩ <;> refine ⟨x, fun y hy => ?_, ?_⟩
  · rw [h1 y hy, h]
  · rw [← h]; exact h2
  · rw [h1 y hy, h]
  · rw [h]; exact h2
theorem less_shift' {T : Nat → Nat} {i j p : Nat} (h : ∀ y, T (i + p + y) = T (i + y)) : Less T (i + p) j ↔ Less T i j := by
  constructor <;> rintro ⟨x, h1, h2⟩ <;> refine ⟨x, fun y hy => ?_, ?_⟩
  · rw [← h1 y hy, h]
  · rw [← h]; exact h2
  · rw [← h1 y hy, h]
  · rw [h]; exact h2
/-- every run is told by a word of one of the two orders -/
theorem word_of_run {f : Nat → Nat} {n b e p : Nat} (hE : Ends f n) (r : IsRun f n b e p) (hstop : e = n ∨ f e < f (e - p)) : ∃ k, b < k ∧ k ≤ b + p ∧ Word f n k (k + p) := by
  have hp := r.pos
  have hlen := r.len
  have hle := r.le
  have sh : ∀ i, b ≤ i → ∀ y, Wheel f b p (i + p + y) = Wheel f b p (i + y) := fun i hi y => by
    rw [show i + p + y = i + y + p by omega, wheel_per (by omega)]
  obtain ⟨k, h1, h2, h3⟩ := least_start (R := Less (Wheel f b p)) (fun _ _ _ => Less.trans) (b + 1) p hp fun i j a c d => by
    obtain ⟨m, hm⟩ := wheel_diff r (i := i) (d := j - i) (by omega) (by omega) (by omega)
    rw [show i + (j - i) = j by omega] at hm
    exact less_or hm
  have low : ∀ j, k < j → j < k + p → Less (Wheel f b p) k j := fun j a c => by
    by_cases hj : j ≤ b + p
    · exact h3 j (by omega) (by omega) (by omega)
    · have := h3 (j - p) (by omega) (by omega) (by omega)
      rw [show j = j - p + p by omega]
      exact (less_shift (sh (j - p) (by omega))).mpr this
  refine ⟨k, by omega, by omega, ⟨by omega, by omega, fun j hk hj => ?_, ?_⟩⟩
  · obtain ⟨x, hx1, hx2⟩ := low j hk hj
    have hx : x < p - (j - k) := by
      refine Nat.lt_of_not_le fun c => ?_
      have st := (show Less (Wheel f b p) k j from ⟨x, hx1, hx2⟩).strip (b := p - (j - k)) fun y hy => hx1 y (by omega)
      rw [show j + (p - (j - k)) = k + p by omega] at st
      have st2 := (less_shift (sh k (by omega))).mp st
      exact st2.asymm (low _ (by omega) (by omega))
    refine ⟨x, fun y hy => ?_, ?_⟩
    · have := hx1 y hy
      rwa [wheel_eq r _ (by omega) (by omega), wheel_eq r _ (by omega) (by omega)] at this
    · rwa [wheel_eq r _ (by omega) (by omega), wheel_eq r _ (by omega) (by omega)] at hx2
  · refine ⟨e - (k + p), fun y hy => ?_, ?_⟩
    · have := r.per (k + y) (by omega) (by omega)
      rw [this]
      congr 1
      omega
    · rw [show k + p + (e - (k + p)) = e by omega, show k + (e - (k + p)) = e - p by omega]
      rcases hstop with h | h
      · have h0 : f e = 0 := (hE e).mpr (by omega)
        have h9 : f (e - p) ≠ 0 := fun c => by have := (hE (e - p)).mp c; omega
        omega
      · exact h
end Mine
end

section
namespace Mine
/-- a chain of words, from s on to the end -/
def ChainW (f : Nat → Nat) (n : Nat) : Nat → List Nat → Prop
  | s, [] => s = n
  | s, q :: r => s = q ∧ q < n ∧ ∃ e, Word f n q e ∧ ChainW f n e r
theorem chain_step {f : Nat → Nat} {n : Nat} (hE : Ends f n) {lt : Nat → Nat → Bool} (hlt : ∀ p q, p < n → q < n → p ≠ q → (lt p q = true ↔ Less f p q)) {p : Nat} (hp : p < n) :
    ∀ (ch : List Nat) (s : Nat), ChainW f n s ch → p < s → (∀ k, p < k → k < s → Less f p k) →
      ∃ e, (ch.dropWhile fun q => !lt q p).headD n = e ∧ ChainW f n e (ch.dropWhile fun q => !lt q p) ∧ Word f n p e
  | [], s, hs, hps, hmid => by
    have hs' : s = n := hs
    subst hs'
    refine ⟨s, rfl, rfl, ⟨hps, Nat.le_refl _, hmid, ⟨0, fun y h => absurd h (Nat.not_lt_zero _), ?_⟩⟩⟩
    have h1 : f (s + 0) = 0 := (hE _).mpr (by omega)
    have h2 : f (p + 0) ≠ 0 := fun c => by have := (hE _).mp c; omega
    omega
  | q :: r, s, ⟨hs, hq, e, w, hr⟩, hps, hmid => by
    subst hs
    by_cases h : lt s p = true
    · have hd : (s :: r).dropWhile (fun q => !lt q p) = s :: r := by simp [h]
      rw [hd]
      exact ⟨s, rfl, ⟨rfl, hq, e, w, hr⟩, ⟨hps, Nat.le_of_lt hq, hmid, (hlt s p hq hp (by omega)).mp h⟩⟩
    · have hd : (s :: r).dropWhile (fun q => !lt q p) = r.dropWhile (fun q => !lt q p) := by
        have h' : lt s p = false := by simpa using h
        simp [List.dropWhile_cons, h']
      rw [hd]
      have hps' : Less f p s := by
        rcases hE.total hps (Nat.le_of_lt hq) with c | c
        · exact c
        · exact absurd ((hlt s p hq hp (by omega)).mpr c) h
      refine chain_step hE hlt hp r e hr (Nat.lt_trans hps w.lt) fun k h1 h2 => ?_
      rcases Nat.lt_trichotomy k s with c | c | c
      · exact hmid k h1 c
      · rw [c]; exact hps'
      · exact hps'.trans (w.mid k c h2)
theorem chain_all {f : Nat → Nat} {n : Nat} (hE : Ends f n) {lt : Nat → Nat → Bool} (hlt : ∀ p q, p < n → q < n → p ≠ q → (lt p q = true ↔ Less f p q)) : ∀ i, i ≤ n → ChainW f n (n - i) (chainAt lt n i)
  | 0, _ => rfl
  | i + 1, h => by
    have ih := chain_all hE hlt i (by omega)
    obtain ⟨e, h1, h2, h3⟩ := chain_step hE hlt (p := n - 1 - i) (by omega) _ _ ih (by omega) fun k a b => absurd a (by omega)
    exact ⟨by omega, by omega, e, h3, h2⟩
theorem wordEnd_word {f : Nat → Nat} {n : Nat} (hE : Ends f n) {lt : Nat → Nat → Bool} (hlt : ∀ p q, p < n → q < n → p ≠ q → (lt p q = true ↔ Less f p q)) {i : Nat} (h : i < n) : Word f n (n - 1 - i) (wordEnd lt n i) := by
  obtain ⟨e, h1, h2, h3⟩ := chain_step hE hlt (p := n - 1 - i) (by omega) _ _ (chain_all hE hlt i (by omega)) (by omega) fun k a b => absurd a (by omega)
  have : wordEnd lt n i = e := h1
  rw [this]; exact h3
/-- a place has one word -/
theorem word_unique {f : Nat → Nat} {n p a b : Nat} (w : Word f n p a) (v : Word f n p b) : a = b := by
  rcases Nat.lt_trichotomy a b with h | h | h
  · exact ((v.mid a w.lt h).asymm w.stop).elim
  · exact h
  · exact ((w.mid b v.lt h).asymm v.stop).elim
end Mine
end

section
namespace Mine
theorem lex_iff : ∀ a b : List Nat, (∀ c ∈ a, 0 < c) → (∀ c ∈ b, 0 < c) → (a < b ↔ ∃ x, (∀ y, y < x → a.getD y 0 = b.getD y 0) ∧ a.getD x 0 < b.getD x 0)
  | a, [], _, _ => by
    constructor
    · intro h; exact absurd h (List.not_lt_nil a)
    · rintro ⟨x, _, h⟩; simp at h
  | [], c :: b, _, hb => by
    constructor
    · intro _; exact ⟨0, fun y h => absurd h (Nat.not_lt_zero _), by simpa using hb c (List.mem_cons_self ..)⟩
    · intro _; exact List.nil_lt_cons ..
  | d :: a, c :: b, ha, hb => by
    have ih := lex_iff a b (fun x hx => ha x (List.mem_cons_of_mem _ hx)) fun x hx => hb x (List.mem_cons_of_mem _ hx)
    rw [List.cons_lt_cons_iff, ih]
    constructor
    · rintro (h | ⟨rfl, x, h1, h2⟩)
      · exact ⟨0, fun y h => absurd h (Nat.not_lt_zero _), by simpa using h⟩
      · refine ⟨x + 1, fun y hy => ?_, by simpa using h2⟩
        cases y with
        | zero => rfl
        | succ y => simpa using h1 y (by omega)
    · rintro ⟨x, h1, h2⟩
      cases x with
      | zero => exact .inl (by simpa using h2)
      | succ x =>
        have h0 := h1 0 (by omega)
        refine .inr ⟨by simpa using h0, x, fun y hy => ?_, by simpa using h2⟩
        simpa using h1 (y + 1) (by omega)
theorem getD_drop (l : List Nat) (p y : Nat) : (l.drop p).getD y 0 = l.getD (p + y) 0 := by
  rw [List.getD_eq_getElem?_getD, List.getD_eq_getElem?_getD, List.getElem?_drop]
theorem lex_less (l : List Nat) (hl : ∀ c ∈ l, 0 < c) (p q : Nat) : l.drop p < l.drop q ↔ Less (fun x => l.getD x 0) p q := by
  rw [lex_iff _ _ (fun c hc => hl c (List.mem_of_mem_drop hc)) fun c hc => hl c (List.mem_of_mem_drop hc)]
  unfold Less
  simp only [getD_drop]
theorem ends_of (l : List Nat) (hl : ∀ c ∈ l, 0 < c) : Ends (fun x => l.getD x 0) l.length := fun x => by
  constructor
  · intro h
    refine Nat.le_of_not_lt fun c => ?_
    have : l.getD x 0 = l[x] := by simp [c]
    have h2 := hl _ (List.getElem_mem c)
    simp only [] at h
    omega
  · intro h
    simp [List.getElem?_eq_none h]
/-- how the signs stand when they are told: '>' < '<' < '-' -/
def rank (c : Nat) : Nat := if c = 62 then 1 else if c = 60 then 2 else 3
def esc3 (c : Nat) : List Nat := if c = 38 then [38, 97, 109, 112, 59] else if c = 60 then [38, 108, 116, 59] else if c = 62 then [38, 103, 116, 59] else if c = 13 then [38, 35, 120, 68, 59] else [c]
def Signs (l : List Nat) : Prop := ∀ c ∈ l, c = 45 ∨ c = 60 ∨ c = 62
theorem Signs.tail {c : Nat} {l : List Nat} (h : Signs (c :: l)) : Signs l := fun x hx => h x (List.mem_cons_of_mem _ hx)
theorem append_lt (c x y : List Nat) : c ++ x < c ++ y ↔ x < y := by
  induction c with
  | nil => rfl
  | cons a c ih =>
    rw [List.cons_append, List.cons_append, List.cons_lt_cons_iff, ih]
    constructor
    · rintro (h | h)
      · exact absurd h (Nat.lt_irrefl _)
      · exact h.2
    · exact fun h => .inr ⟨rfl, h⟩
theorem esc_lt : ∀ a b : List Nat, Signs a → Signs b → (a.flatMap esc3 < b.flatMap esc3 ↔ a.map rank < b.map rank)
  | a, [], _, _ => by
    constructor <;> intro h <;> exact absurd h (List.not_lt_nil _)
  | [], c :: b, _, hb => by
    constructor
    · intro _; exact List.nil_lt_cons ..
    · intro _
      rcases hb c (List.mem_cons_self ..) with rfl | rfl | rfl <;> simp [esc3]
  | d :: a, c :: b, ha, hb => by
    have ih := esc_lt a b ha.tail hb.tail
    rw [List.flatMap_cons, List.flatMap_cons, List.map_cons, List.map_cons, List.cons_lt_cons_iff, ← ih]
    by_cases hdc : d = c
    · subst hdc
      rw [append_lt]
      simp
    · rcases ha d (List.mem_cons_self ..) with rfl | rfl | rfl <;> rcases hb c (List.mem_cons_self ..) with rfl | rfl | rfl <;> first | exact absurd rfl hdc | simp [esc3, rank, List.cons_lt_cons_iff]
end Mine
end

section
namespace Mine
/-- r has the same equal letters as f, and stands in the opposite order -/
structure Opp (f r : Nat → Nat) : Prop where
  zero : ∀ x, f x = 0 ↔ r x = 0
  lt : ∀ x y, f x ≠ 0 → f y ≠ 0 → (f x < f y ↔ r y < r x)
theorem Opp.eq {f r : Nat → Nat} (o : Opp f r) (x y : Nat) : f x = f y ↔ r x = r y := by
  by_cases hx : f x = 0
  · have hx' := (o.zero x).mp hx
    constructor
    · intro h
      have : r y = 0 := (o.zero y).mp (by omega)
      omega
    · intro h
      have : f y = 0 := (o.zero y).mpr (by omega)
      omega
  · by_cases hy : f y = 0
    · have hy' := (o.zero y).mp hy
      have hx' : r x ≠ 0 := fun c => hx ((o.zero x).mpr c)
      constructor <;> intro h <;> omega
    · have h1 := o.lt x y hx hy
      have h2 := o.lt y x hy hx
      constructor <;> intro h <;> omega
theorem IsRun.opp {f r : Nat → Nat} {n b e p : Nat} (o : Opp f r) (h : IsRun r n b e p) : IsRun f n b e p :=
  ⟨h.pos, h.len, h.le, fun x h1 h2 => (o.eq _ _).mpr (h.per x h1 h2), fun d h1 h2 => by
    obtain ⟨x, a, c, e⟩ := h.least d h1 h2
    exact ⟨x, a, c, fun q => e ((o.eq _ _).mp q)⟩, h.left.imp id fun q c => q ((o.eq _ _).mp c), h.right.imp id fun q c => q ((o.eq _ _).mp c)⟩
theorem IsRun.opp' {f r : Nat → Nat} {n b e p : Nat} (o : Opp f r) (h : IsRun f n b e p) : IsRun r n b e p :=
  ⟨h.pos, h.len, h.le, fun x h1 h2 => (o.eq _ _).mp (h.per x h1 h2), fun d h1 h2 => by
    obtain ⟨x, a, c, e⟩ := h.least d h1 h2
    exact ⟨x, a, c, fun q => e ((o.eq _ _).mpr q)⟩, h.left.imp id fun q c => q ((o.eq _ _).mpr c), h.right.imp id fun q c => q ((o.eq _ _).mpr c)⟩
/-- a run is told by a word of the one order or of the other -/
theorem word_of_run2 {f r : Nat → Nat} {n b e p : Nat} (o : Opp f r) (hf : Ends f n) (hr : Ends r n) (h : IsRun f n b e p) : ∃ k, b < k ∧ k ≤ b + p ∧ (Word f n k (k + p) ∨ Word r n k (k + p)) := by
  have hp := h.pos
  have hlen := h.len
  have hle := h.le
  by_cases he : e = n
  · obtain ⟨k, h1, h2, w⟩ := word_of_run hf h (.inl he)
    exact ⟨k, h1, h2, .inl w⟩
  · have hne : f e ≠ f (e - p) := h.right.resolve_left he
    have h1 : f e ≠ 0 := fun c => by have := (hf e).mp c; omega
    have h2 : f (e - p) ≠ 0 := fun c => by have := (hf (e - p)).mp c; omega
    rcases Nat.lt_or_gt_of_ne hne with c | c
    · obtain ⟨k, a1, a2, w⟩ := word_of_run hf h (.inr c)
      exact ⟨k, a1, a2, .inl w⟩
    · obtain ⟨k, a1, a2, w⟩ := word_of_run hr (h.opp' o) (.inr ((o.lt _ _ h2 h1).mp c))
      exact ⟨k, a1, a2, .inr w⟩
/-- all alike from p on -/
def Alike (f : Nat → Nat) (n p : Nat) : Prop := ∀ x, p ≤ x → x < n → f x = f p
theorem word_one {f : Nat → Nat} {n p e : Nat} (w : Word f n p e) (h : Less f (p + 1) p) : e = p + 1 := by
  have := w.lt
  rcases Nat.lt_or_ge (p + 1) e with c | c
  · exact ((w.mid (p + 1) (by omega) c).asymm h).elim
  · omega
theorem word_more {f : Nat → Nat} {n p e : Nat} (w : Word f n p e) (h : Less f p (p + 1)) : p + 1 < e := by
  have := w.lt
  rcases Nat.lt_or_ge (p + 1) e with c | c
  · exact c
  · have : e = p + 1 := by omega
    subst this
    exact (h.asymm w.stop).elim
/-- of the two words at a place one has one sign; both have one iff the rest is all alike -/
theorem sizes_at {f r : Nat → Nat} {n p a b : Nat} (o : Opp f r) (hf : Ends f n) (hr : Ends r n) (hp : p < n) (w : Word f n p a) (v : Word r n p b) :
    (Alike f n p ∧ a = p + 1 ∧ b = p + 1) ∨ (¬ Alike f n p ∧ ((a = p + 1 ∧ p + 1 < b) ∨ (p + 1 < a ∧ b = p + 1))) := by
  by_cases hal : Alike f n p
  · refine .inl ⟨hal, word_one w ?_, word_one v ?_⟩
    · refine ⟨n - 1 - p, fun y hy => ?_, ?_⟩
      · rw [hal (p + 1 + y) (by omega) (by omega), hal (p + y) (by omega) (by omega)]
      · have h1 : f (p + 1 + (n - 1 - p)) = 0 := (hf _).mpr (by omega)
        have h2 : f (p + (n - 1 - p)) ≠ 0 := fun c => by have := (hf _).mp c; omega
        omega
    · refine ⟨n - 1 - p, fun y hy => ?_, ?_⟩
      · rw [← o.eq, hal (p + 1 + y) (by omega) (by omega), hal (p + y) (by omega) (by omega)]
      · have h1 : r (p + 1 + (n - 1 - p)) = 0 := (hr _).mpr (by omega)
        have h2 : r (p + (n - 1 - p)) ≠ 0 := fun c => by have := (hr _).mp c; omega
        omega
  · refine .inr ⟨hal, ?_⟩
    obtain ⟨m, hm⟩ : ∃ m, p + 1 + m < n ∧ f (p + m) ≠ f (p + 1 + m) := by
      refine Classical.byContradiction fun c => hal ?_
      intro x
      induction x with
      | zero => intro h1 h2; rw [show p = 0 by omega]
      | succ x ih =>
        intro h1 h2
        by_cases hx : p ≤ x
        · rw [← ih hx (by omega)]
          refine Classical.byContradiction fun q => c ⟨x - p, by omega, fun e => q ?_⟩
          rw [show p + (x - p) = x by omega, show p + 1 + (x - p) = x + 1 by omega] at e
          exact e.symm
        · rw [show p = x + 1 by omega]
    obtain ⟨x, hx, hsame, hd⟩ := first_diff m hm.2
    have n1 : f (p + x) ≠ 0 := fun c => by have := (hf _).mp c; omega
    have n2 : f (p + 1 + x) ≠ 0 := fun c => by have := (hf _).mp c; omega
    rcases Nat.lt_or_gt_of_ne hd with c | c
    · exact .inr ⟨word_more w ⟨x, hsame, c⟩, word_one v ⟨x, fun y hy => ((o.eq _ _).mp (hsame y hy)).symm, (o.lt _ _ n1 n2).mp c⟩⟩
    · exact .inl ⟨word_one w ⟨x, fun y hy => (hsame y hy).symm, c⟩, word_more v ⟨x, fun y hy => (o.eq _ _).mp (hsame y hy), (o.lt _ _ n2 n1).mp c⟩⟩
end Mine
end

section
namespace Mine
theorem Signs.pos {l : List Nat} (h : Signs l) : ∀ c ∈ l, 0 < c := fun c hc => by rcases h c hc with rfl | rfl | rfl <;> decide
theorem rank_pos (l : List Nat) : ∀ c ∈ l.map rank, 0 < c := fun c hc => by
  obtain ⟨d, _, rfl⟩ := List.mem_map.mp hc
  unfold rank
  split
  · decide
  · split <;> decide
theorem opp_rank {l : List Nat} (h : Signs l) : Opp (fun x => l.getD x 0) (fun x => (l.map rank).getD x 0) := by
  have e1 := ends_of l h.pos
  have e2 := ends_of (l.map rank) (rank_pos l)
  rw [List.length_map] at e2
  refine ⟨fun x => (e1 x).trans (e2 x).symm, fun x y hx hy => ?_⟩
  have hx' : x < l.length := Nat.lt_of_not_le fun c => hx ((e1 x).mpr c)
  have hy' : y < l.length := Nat.lt_of_not_le fun c => hy ((e1 y).mpr c)
  have g1 : l.getD x 0 = l[x] := by simp [hx']
  have g2 : l.getD y 0 = l[y] := by simp [hy']
  have g3 : (l.map rank).getD x 0 = rank l[x] := by simp [hx']
  have g4 : (l.map rank).getD y 0 = rank l[y] := by simp [hy']
  simp only [g1, g2, g3, g4]
  rcases h _ (List.getElem_mem hx') with e | e | e <;> rcases h _ (List.getElem_mem hy') with e' | e' | e' <;> rw [e, e'] <;> decide
/-- how far a period goes on -/
def Goes (f : Nat → Nat) (n size e r : Nat) : Prop := e ≤ r ∧ r ≤ n ∧ (∀ x, e ≤ x → x < r → f x = f (x - size)) ∧ (r < n → f r ≠ f (r - size))
theorem Goes.unique {f : Nat → Nat} {n size e r r' : Nat} (h : Goes f n size e r) (h' : Goes f n size e r') : r = r' := by
  rcases Nat.lt_trichotomy r r' with c | c | c
  · exact absurd (h'.2.2.1 r h.1 c) (h.2.2.2 (Nat.lt_of_lt_of_le c h'.2.1))
  · exact c
  · exact absurd (h.2.2.1 r' h'.1 c) (h'.2.2.2 (Nat.lt_of_lt_of_le c h.2.1))
/-- how far a period goes back -/
def Back (f : Nat → Nat) (size p b : Nat) : Prop := b ≤ p ∧ (∀ x, b ≤ x → x < p → f x = f (x + size)) ∧ (b = 0 ∨ f (b - 1) ≠ f (b - 1 + size))
theorem Back.unique {f : Nat → Nat} {size p b b' : Nat} (h : Back f size p b) (h' : Back f size p b') : b = b' := by
  rcases Nat.lt_trichotomy b b' with c | c | c
  · rcases h'.2.2 with e | e
    · omega
    · exact absurd (h.2.1 (b' - 1) (by omega) (by have := h'.1; omega)) e
  · exact c
  · rcases h.2.2 with e | e
    · omega
    · exact absurd (h'.2.1 (b - 1) (by omega) (by have := h.1; omega)) e
/-- what a place tells for a size -/
def Tells (f : Nat → Nat) (n p size b e : Nat) : Prop := Goes f n size (p + size) e ∧ Back f size p b ∧ b < p ∧ b + 2 * size ≤ e
theorem tells_run {f : Nat → Nat} {n p size b e : Nat} (w : Word f n p (p + size)) (h : Tells f n p size b e) : IsRun f n b e size := by
  obtain ⟨h1, h2, h3, h4⟩ := h
  refine run_of_word w h3 h1.1 h1.2.1 h4 h2.2.1 h1.2.2.1 h2.2.2 ?_
  rcases Nat.lt_or_ge e n with c | c
  · exact .inr (h1.2.2.2 c)
  · exact .inl (Nat.le_antisymm h1.2.1 c)
theorem run_tells {f : Nat → Nat} {n k b e p : Nat} (h : IsRun f n b e p) (h1 : b < k) (h2 : k ≤ b + p) : Tells f n k p b e := by
  have hp := h.pos
  have hlen := h.len
  have hle := h.le
  refine ⟨⟨by omega, h.le, fun x a c => ?_, fun c => ?_⟩, ⟨by omega, fun x a c => h.per x a (by omega), h.left⟩, h1, h.len⟩
  · have := h.per (x - p) (by omega) (by omega)
    rw [show x - p + p = x by omega] at this
    exact this.symm
  · exact h.right.resolve_left (by omega)
/-- the runs are what the places tell -/
theorem told_iff {f r : Nat → Nat} {n : Nat} (o : Opp f r) (hf : Ends f n) (hr : Ends r n) {A B : Nat → Nat} (hA : ∀ p, p < n → Word f n p (p + A p)) (hB : ∀ p, p < n → Word r n p (p + B p)) (b e s : Nat) :
    IsRun f n b e s ↔ ∃ p, p < n ∧ (s = A p ∨ s = B p) ∧ Tells f n p s b e := by
  constructor
  · intro h
    obtain ⟨k, h1, h2, w⟩ := word_of_run2 o hf hr h
    have hk : k < n := by have := h.len; have := h.le; have := h.pos; omega
    refine ⟨k, hk, ?_, run_tells h h1 h2⟩
    rcases w with w | w
    · have := word_unique w (hA k hk)
      exact .inl (by omega)
    · have := word_unique w (hB k hk)
      exact .inr (by omega)
  · rintro ⟨p, hp, rfl | rfl, h⟩
    · exact tells_run (hA p hp) h
    · refine IsRun.opp o (tells_run (hB p hp) ?_)
      obtain ⟨⟨g1, g2, g3, g4⟩, ⟨k1, k2, k3⟩, h3, h4⟩ := h
      exact ⟨⟨g1, g2, fun x a c => (o.eq _ _).mp (g3 x a c), fun c q => g4 c ((o.eq _ _).mpr q)⟩, ⟨k1, fun x a c => (o.eq _ _).mp (k2 x a c), k3.imp id fun q c => q ((o.eq _ _).mpr c)⟩, h3, h4⟩
/-- at most one size is told at a place, if the sizes differ -/
theorem tells_once {f r : Nat → Nat} {n p : Nat} (o : Opp f r) (hf : Ends f n) (hr : Ends r n) {a b : Nat} (hp : p < n) (w : Word f n p (p + a)) (v : Word r n p (p + b)) {b1 e1 b2 e2 : Nat} (h1 : Tells f n p a b1 e1) (h2 : Tells f n p b b2 e2) : a = b := by
  have back : ∀ {s b e}, Tells f n p s b e → f (p - 1) = f (p - 1 + s) := fun h => h.2.1.2.1 (p - 1) (by have := h.2.2.1; omega) (by have := h.2.2.1; omega)
  have p0 : 0 < p := Nat.lt_of_le_of_lt (Nat.zero_le _) h1.2.2.1
  rcases sizes_at o hf hr hp w v with ⟨_, x, y⟩ | ⟨_, ⟨x, y⟩ | ⟨x, y⟩⟩
  · omega
  · have ha : a = 1 := by omega
    subst ha
    have t1 := back h1
    have t2 := back h2
    rw [show p - 1 + 1 = p by omega] at t1
    exact (one_told v (by omega) ((o.eq _ _).mp t1) ((o.eq _ _).mp t2) p0).elim
  · have hb : b = 1 := by omega
    subst hb
    have t1 := back h1
    have t2 := back h2
    rw [show p - 1 + 1 = p by omega] at t2
    exact (one_told w (by omega) t2 t1 p0).elim
end Mine
end

section
namespace Mine
theorem sorted_eq {α : Type} {R : α → α → Prop} (irr : ∀ a, ¬ R a a) (asy : ∀ a b, R a b → R b a → False) : ∀ {a b : List α}, a.Pairwise R → b.Pairwise R → (∀ x, x ∈ a ↔ x ∈ b) → a = b
  | [], [], _, _, _ => rfl
  | [], y :: b, _, _, h => absurd ((h y).mpr (List.mem_cons_self ..)) (by simp)
  | x :: a, [], _, _, h => absurd ((h x).mp (List.mem_cons_self ..)) (by simp)
  | x :: a, y :: b, ha, hb, h => by
    obtain ⟨ha1, ha2⟩ := List.pairwise_cons.mp ha
    obtain ⟨hb1, hb2⟩ := List.pairwise_cons.mp hb
    have hxy : x = y := by
      rcases List.mem_cons.mp ((h x).mp (List.mem_cons_self ..)) with e | e
      · exact e
      · rcases List.mem_cons.mp ((h y).mpr (List.mem_cons_self ..)) with e' | e'
        · exact e'.symm
        · exact (asy _ _ (ha1 _ e') (hb1 _ e)).elim
    subst hxy
    congr 1
    refine sorted_eq irr asy ha2 hb2 fun z => ⟨fun hz => ?_, fun hz => ?_⟩
    · rcases List.mem_cons.mp ((h z).mp (List.mem_cons_of_mem _ hz)) with e | e
      · exact absurd (e ▸ ha1 z hz) (irr _)
      · exact e
    · rcases List.mem_cons.mp ((h z).mpr (List.mem_cons_of_mem _ hz)) with e | e
      · exact absurd (e ▸ hb1 z hz) (irr _)
      · exact e
/-- going on in the turned text is going back in the text -/
theorem back_of_goes {f g : Nat → Nat} {n s p r : Nat} (hg : ∀ x, x < n → g x = f (n - 1 - x)) (hp : p + s ≤ n) (hs : 1 ≤ s) (h : Goes g n s (n - p) r) : Back f s p (n - r) := by
  obtain ⟨h1, h2, h3, h4⟩ := h
  refine ⟨by omega, fun x a c => ?_, ?_⟩
  · have := h3 (n - 1 - x) (by omega) (by omega)
    rw [hg _ (by omega), hg _ (by omega)] at this
    rw [show n - 1 - (n - 1 - x) = x by omega, show n - 1 - (n - 1 - x - s) = x + s by omega] at this
    exact this
  · rcases Nat.lt_or_ge r n with c | c
    · refine .inr fun e => h4 c ?_
      rw [hg _ c, hg _ (by omega), show n - 1 - r = n - r - 1 by omega, show n - 1 - (r - s) = n - r - 1 + s by omega]
      exact e
    · exact .inl (by omega)
/-- runs stand by begin, then end, then period -/
def RunLt (x y : Nat × Nat × Nat) : Prop := x.1 < y.1 ∨ (x.1 = y.1 ∧ (x.2.1 < y.2.1 ∨ (x.2.1 = y.2.1 ∧ x.2.2 < y.2.2)))
theorem RunLt.irrefl (a : Nat × Nat × Nat) : ¬ RunLt a a := by unfold RunLt; omega
theorem RunLt.asymm (a b : Nat × Nat × Nat) : RunLt a b → RunLt b a → False := by unfold RunLt; omega
theorem RunLt.trans {a b c : Nat × Nat × Nat} : RunLt a b → RunLt b c → RunLt a c := by unfold RunLt; omega
theorem RunLt.total {a b : Nat × Nat × Nat} (h : a ≠ b) : RunLt a b ∨ RunLt b a := by
  obtain ⟨a1, a2, a3⟩ := a
  obtain ⟨b1, b2, b3⟩ := b
  unfold RunLt
  simp only
  have : ¬ (a1 = b1 ∧ a2 = b2 ∧ a3 = b3) := fun ⟨x, y, z⟩ => h (by rw [x, y, z])
  omega
/-- put in at its place a list stays sorted -/
theorem insert_sorted {xs : List (Nat × Nat × Nat)} {x : Nat × Nat × Nat} {k : Nat} (hs : xs.Pairwise RunLt) (h1 : ∀ y ∈ xs.take k, RunLt y x) (h2 : ∀ y ∈ xs.drop k, RunLt x y) : (xs.take k ++ x :: xs.drop k).Pairwise RunLt := by
  have hs' : (xs.take k ++ xs.drop k).Pairwise RunLt := by rw [List.take_append_drop]; exact hs
  obtain ⟨a, b, c⟩ := List.pairwise_append.mp hs'
  refine List.pairwise_append.mpr ⟨a, List.pairwise_cons.mpr ⟨h2, b⟩, fun y hy z hz => ?_⟩
  rcases List.mem_cons.mp hz with rfl | hz
  · exact h1 y hy
  · exact c y hy z hz
end Mine
end

section
open PySem PySem.W PyProof.Rows
open PySem.MeetsSeq
set_option maxRecDepth 100000
namespace Mine
def lt3 (a b c x y z : Int) : Bool := decide (a < x ∨ (a = x ∧ (b < y ∨ (b = y ∧ c < z))))
theorem eqInt {prog : Program} {w : World} {A : Around} {E : Value → Shared → Prop} {s : Shared} {a b : Int} {t u : Tok} {Q : Bool → Shared → Prop} (h : Q (a == b) s) : wpAny (model prog w) A (eqBool (.int a t) (.int b u)) Q E s := wpAny_eqBool_int h
theorem ltInt {prog : Program} {w : World} {A : Around} {E : Value → Shared → Prop} {s : Shared} {a b : Int} {t u : Tok} {Q : Value → Shared → Prop} (h : Q (.bool (decide (a < b))) s) : wpAny (model prog w) A (richCompare .Lt (.int a t) (.int b u)) Q E s := wpAny_lt_int h
section
variable {A : Around} {s : Shared}
theorem tuple_lt3 (l b : Addr) (n n2 : Nat) (a1 a2 a3 b1 b2 b3 : Int) (t1 t2 t3 u1 u2 u3 : Tok) :
    Meets (Builtin.«tuple.__lt__» ⟨[.ref l, .ref b], []⟩)
      (fun A R s => s.heap.get? l = some { cls := .type "tuple", data := .seq #[.int a1 t1, .int a2 t2, .int a3 t3] n } ∧ s.heap.get? b = some { cls := .type "tuple", data := .seq #[.int b1 u1, .int b2 u2, .int b3 u3] n2 } ∧
        R (.ok (.ret (.bool (lt3 a1 a2 a3 b1 b2 b3)))) s) :=
  .of_wp fun prog w A R s h => by
    obtain ⟨hp, g, d, tk, os⟩ := s; obtain ⟨hl, hb, h⟩ := h
    have f2 := AutoSeq1.sub_tuple_tuple
    have go : wpAny (model prog w) A.in1 (do
        for (x, y) in (#[Value.int a1 t1, .int a2 t2, .int a3 t3] : Array Value).toList.zip (#[Value.int b1 u1, .int b2 u2, .int b3 u3] : Array Value).toList do
          if !(← eqBool x y) then
            match CmpOp.Lt with
            | .Eq => return ← ret (.bool false)
            | .NotEq => return ← ret (.bool true)
            | _ => rule "tuple.compare.by-the-first-pair-that-differs"; return ← ret (← richCompare .Lt x y)
        ret (Builtin.Tuple.tupleCompareSizes .Lt (#[Value.int a1 t1, .int a2 t2, .int a3 t3] : Array Value).size (#[Value.int b1 u1, .int b2 u2, .int b3 u3] : Array Value).size))
        (fun fin s' => ∃ v, fin = Fin.done (Flow.ret v) ∧ R (Except.ok (Flow.ret v)) s')
        (fun e s' => R (Except.error e) s') ⟨hp, g, d, tk, os⟩ := by
      dsimp only [List.zip, List.zipWith]
      simp only [List.forIn_cons, List.forIn_nil]
      refine wpAny_bind (wpAny_bind (wpAny_bind (eqInt ?_)))
      by_cases h1 : a1 = b1
      · rw [beq_iff_eq.mpr h1]
        simp only [Bool.not_true, Bool.false_eq_true, if_false]
        refine wpAny_pure ?_
        refine wpAny_bind (wpAny_bind (eqInt ?_))
        by_cases h2 : a2 = b2
        · rw [beq_iff_eq.mpr h2]
          simp only [Bool.not_true, Bool.false_eq_true, if_false]
          refine wpAny_pure ?_
          refine wpAny_bind (wpAny_bind (eqInt ?_))
          by_cases h3 : a3 = b3
          · rw [beq_iff_eq.mpr h3]
            simp only [Bool.not_true, Bool.false_eq_true, if_false]
            refine wpAny_pure ?_
            refine wpAny_pure ?_
            refine wpAny_pure ⟨_, rfl, ?_⟩
            have e : lt3 a1 a2 a3 b1 b2 b3 = false := decide_eq_false (by omega)
            rw [e] at h
            exact h
          · rw [beq_eq_false_iff_ne.mpr h3]
            simp only [Bool.not_false, if_true]
            refine wpAny_bind (wpAny_rule (wpAny_bind (ltInt (wpAny_bind (wpAny_pure (wpAny_pure ?_))))))
            refine wpAny_pure (wpAny_pure ⟨_, rfl, ?_⟩)
            have e : lt3 a1 a2 a3 b1 b2 b3 = decide (a3 < b3) := decide_eq_decide.mpr (by omega)
            rw [e] at h
            exact h
        · rw [beq_eq_false_iff_ne.mpr h2]
          simp only [Bool.not_false, if_true]
          refine wpAny_bind (wpAny_rule (wpAny_bind (ltInt (wpAny_bind (wpAny_pure (wpAny_pure ?_))))))
          refine wpAny_pure (wpAny_pure ⟨_, rfl, ?_⟩)
          have e : lt3 a1 a2 a3 b1 b2 b3 = decide (a2 < b2) := decide_eq_decide.mpr (by omega)
          rw [e] at h
          exact h
      · rw [beq_eq_false_iff_ne.mpr h1]
        simp only [Bool.not_false, if_true]
        refine wpAny_bind (wpAny_rule (wpAny_bind (ltInt (wpAny_bind (wpAny_pure (wpAny_pure ?_))))))
        refine wpAny_pure (wpAny_pure ⟨_, rfl, ?_⟩)
        have e : lt3 a1 a2 a3 b1 b2 b3 = decide (a1 < b1) := decide_eq_decide.mpr (by omega)
        rw [e] at h
        exact h
    wp_walk using wpAny_loadPart' hl, wpAny_loadPart' hb, go
end
end Mine
namespace Mine
abbrev tup3 (x : Nat × Nat × Nat) (t1 t2 t3 : Tok) : Obj := { cls := .type "tuple", data := .seq #[.int (x.1 : Nat) t1, .int (x.2.1 : Nat) t2, .int (x.2.2 : Nat) t3] }
/-- the value is a triple of the ledger -/
def IsTrip (led : List (Addr × Obj)) (v : Value) (x : Nat × Nat × Nat) : Prop := ∃ T t1 t2 t3, v = .ref T ∧ (T, tup3 x t1 t2 t3) ∈ led
inductive Trips (led : List (Addr × Obj)) : List Value → List (Nat × Nat × Nat) → Prop
  | nil : Trips led [] []
  | cons {v x vs xs} : IsTrip led v x → Trips led vs xs → Trips led (v :: vs) (x :: xs)
theorem IsTrip.mono {led led' : List (Addr × Obj)} (hs : ∀ p ∈ led, p ∈ led') {v : Value} {x : Nat × Nat × Nat} : IsTrip led v x → IsTrip led' v x
  | ⟨T, t1, t2, t3, e, h⟩ => ⟨T, t1, t2, t3, e, hs _ h⟩
section
variable {led led' : List (Addr × Obj)} {vs us : List Value} {xs ys : List (Nat × Nat × Nat)}
theorem Trips.mono (hs : ∀ p ∈ led, p ∈ led') (h : Trips led vs xs) : Trips led' vs xs := by
  induction h with
  | nil => exact .nil
  | cons a _ ih => exact .cons (a.mono hs) ih
theorem Trips.len (h : Trips led vs xs) : vs.length = xs.length := by
  induction h with
  | nil => rfl
  | cons _ _ ih => rw [List.length_cons, List.length_cons, ih]
theorem Trips.append (h : Trips led vs xs) (h' : Trips led us ys) : Trips led (vs ++ us) (xs ++ ys) := by
  induction h with
  | nil => exact h'
  | cons a _ ih => exact .cons a ih
theorem Trips.take (h : Trips led vs xs) : ∀ k, Trips led (vs.take k) (xs.take k) := by
  induction h with
  | nil => intro k; simpa using Trips.nil
  | cons a _ ih => intro k; cases k with
    | zero => exact .nil
    | succ k => exact .cons a (ih k)
theorem Trips.drop (h : Trips led vs xs) : ∀ k, Trips led (vs.drop k) (xs.drop k) := by
  induction h with
  | nil => intro k; simpa using Trips.nil
  | cons a b ih => intro k; cases k with
    | zero => exact .cons a b
    | succ k => exact ih k
theorem Trips.get (h : Trips led vs xs) : ∀ {k : Nat} {v : Value}, vs[k]? = some v → IsTrip led v (xs.getD k (0, 0, 0)) := by
  induction h with
  | nil => intro k v e; simp at e
  | cons a b ih => intro k v e; cases k with
    | zero => simp at e; subst e; exact a
    | succ k => simp at e; exact ih e
end
section
variable {prog : Program} {w : World} {A : Around} {E : Value → Shared → Prop} {s : Shared}
theorem lt_tup3 {a b : Addr} {x y : Nat × Nat × Nat} {t1 t2 t3 u1 u2 u3 : Tok} {Q : Value → Shared → Prop} (ha : s.heap.get? a = some (tup3 x t1 t2 t3)) (hb : s.heap.get? b = some (tup3 y u1 u2 u3)) (hu : A.units < cLine)
    (h : Q (.bool (lt3 x.1 x.2.1 x.2.2 y.1 y.2.1 y.2.2)) s) : wpAny (model prog w) A (compareOp .Lt (.ref a) (.ref b)) Q E s :=
  richCompare_meets_room (op := .Lt) ⟨_, ha, rfl⟩ ⟨_, hb, rfl⟩ F.slot_tuple_lt F.entry_tuple_lt (F.args_tuple_lt_2 _ _) (tuple_lt3 a b _ _ _ _ _ _ _ _ _ _ _ _ _ _)
    ⟨ha, hb, show Value.bool _ ≠ Value.notImplemented ∧ Q (.bool _) s from ⟨(fun x => nomatch x), h⟩⟩ hu
end
end Mine
namespace Mine
def ltB (x y : Nat × Nat × Nat) : Bool := lt3 x.1 x.2.1 x.2.2 y.1 y.2.1 y.2.2
section
variable {prog : Program} {w : World} {A : Around} {E : Value → Shared → Prop} {s : Shared} {h₀ : Heap} {L : Addr} {news : List (Addr × Obj)}
theorem lt_tupN {a b : Addr} {x y : Nat × Nat × Nat} {t1 t2 t3 u1 u2 u3 : Tok} {r : Bool} {Q : Value → Shared → Prop} (N : News h₀ L s.heap news) (ha : (a, tup3 x t1 t2 t3) ∈ news) (hb : (b, tup3 y u1 u2 u3) ∈ news) (hu : A.units < cLine)
    (hr : ltB x y = r) (h : Q (.bool r) s) : wpAny (model prog w) A (compareOp .Lt (.ref a) (.ref b)) Q E s :=
  lt_tup3 (N _ ha).1 (N _ hb).1 hu (by rw [← hr] at h; exact h)
theorem list_itemN {value slice : PySem.Expr} {l : Addr} {vs : Array Value} {n : Nat} {k : Int} {u : Tok} {v : Value} {Q : Value → Shared → Prop} (N : News h₀ L s.heap news)
    (hl : (l, listOf vs n) ∈ news) (h0 : 0 ≤ k) (hhi : k < 2 ^ 63) (hx : vs[k.toNat]? = some v) (h : Q v s)
    (hs : subscripted slice false (.ref l) (.int k u) = operate [.ref l, .int k u] (getItem (.ref l) (.int k u)) := by with_unfolding_all rfl) :
    wpAny (model prog w) A (subscriptTail value slice (.ref l) (.int k u)) Q E s :=
  have hL : s.heap.IsList l vs := ⟨_, (N _ hl).1, rfl, _, rfl⟩
  tail_any hL.typeIs slot_list_getitem.lookup (wpAny_getItem_list hL h0 hhi hx h) hs
theorem list_lenN {l : Addr} {vs : Array Value} {n : Nat} {Q : Value → Shared → Prop} (N : News h₀ L s.heap news) (hl : (l, listOf vs n) ∈ news) (hz : vs.size ≤ 10000)
    (h : ∀ t k, Q (.int vs.size t) { s with toks := k }) : wpAny (model prog w) A (call (.builtin "len") [.ref l]) Q E s :=
  PyProof.Rows.len_list ⟨_, (N _ hl).1, rfl, _, rfl⟩ (by omega) (h _ _)
end
end Mine
end

section
open PySem PySem.W PySem.W.X PyProof.Rows
set_option maxRecDepth 100000
namespace Mine
theorem fillK21 : PySem.Challenge.rw_xp0017_01 = PySem.Challenge.rw_xp0017_01 ∧ hd.heap_1 = hd.heap_1 := by
  w_top off
  k_fill
  exact ⟨rfl, rfl⟩
theorem ltB_iff (x y : Nat × Nat × Nat) : ltB x y = true ↔ RunLt x y := by
  unfold ltB lt3 RunLt
  rw [decide_eq_true_iff]
  omega
/-- where x is put in -/
def CutR (xs : List (Nat × Nat × Nat)) (x : Nat × Nat × Nat) (r : Nat) : Prop :=
  r ≤ xs.length ∧ (∀ j, j < r → ltB x (xs.getD j (0, 0, 0)) = false) ∧ ∀ j, r ≤ j → j < xs.length → ltB x (xs.getD j (0, 0, 0)) = true
theorem ltB_trans {x y z : Nat × Nat × Nat} (h1 : ltB x y = true) (h2 : ltB y z = true) : ltB x z = true := (ltB_iff _ _).mpr (((ltB_iff _ _).mp h1).trans ((ltB_iff _ _).mp h2))
local macro_rules | `(tactic| walk_at "exec While Compare") => `(tactic| (refine stopHere ?_))
local macro_rules | `(tactic| walk_at "call builtin:len") => `(tactic| (k_dflt (refine' list_lenN ?k1 ?k2 ?k3 ?_; (case k1 => k_asm); (case k2 => assumption); (case k3 => omega); k_whole); intro t' k'))
set_option hygiene false in
local macro_rules | `(tactic| walk_at "subscriptTail") => `(tactic| (k_dflt (refine' list_itemN ?k1 hD ?k5 ?k6 hv ?_ ?k7; (case k1 => k_asm); (case k5 => omega); (case k6 => omega); (case k7 => with_unfolding_all rfl); k_whole)))
set_option hygiene false in
local macro_rules | `(tactic| walk_at "compareOp Lt ref ref") => `(tactic| (k_dflt (refine' lt_tupN ?k1 hT hm ?k2 hb ?_; (case k1 => k_asm); (case k2 => ktr_units); k_whole)))
def BisrP (w : World) (news : List (Addr × Obj)) (D T : Addr) (vs : Array Value) (n : Nat) (x : Nat × Nat × Nat) (s1 s2 s3 : Tok) (xs : List (Nat × Nat × Nat)) (t1 : Tok) (c : Cx) : Prop :=
  vs.size ≤ 1000 → (D, listOf vs n) ∈ news → (T, tup3 x s1 s2 s3) ∈ news → Trips news vs.toList xs → xs.Pairwise RunLt → ClaimAt w 53 6 news [.ref D, .ref T, .int 0 t1, .none] (fun v news' => news' = news ∧ ∃ (r : Nat) (t : Tok), v = .int r t ∧ CutR xs x r) c
namespace BrN
@[irreducible] noncomputable def ea : World × List (Addr × Obj) × Addr × Addr × Array Value × Nat × (Nat × Nat × Nat) × Tok × Tok × Tok × List (Nat × Nat × Nat) × Tok × Cx := worst (w0, [], 0, 0, #[], 0, ((0, 0, 0)), 0, 0, 0, [], 0, cx0) fun e => BisrP e.1 e.2.1 e.2.2.1 e.2.2.2.1 e.2.2.2.2.1 e.2.2.2.2.2.1 e.2.2.2.2.2.2.1 e.2.2.2.2.2.2.2.1 e.2.2.2.2.2.2.2.2.1 e.2.2.2.2.2.2.2.2.2.1 e.2.2.2.2.2.2.2.2.2.2.1 e.2.2.2.2.2.2.2.2.2.2.2.1 e.2.2.2.2.2.2.2.2.2.2.2.2
@[irreducible] noncomputable def w : World := ea.1
@[irreducible] noncomputable def news : List (Addr × Obj) := ea.2.1
@[irreducible] noncomputable def D : Addr := ea.2.2.1
@[irreducible] noncomputable def T : Addr := ea.2.2.2.1
@[irreducible] noncomputable def vs : Array Value := ea.2.2.2.2.1
@[irreducible] noncomputable def n : Nat := ea.2.2.2.2.2.1
@[irreducible] noncomputable def x : Nat × Nat × Nat := ea.2.2.2.2.2.2.1
@[irreducible] noncomputable def s1 : Tok := ea.2.2.2.2.2.2.2.1
@[irreducible] noncomputable def s2 : Tok := ea.2.2.2.2.2.2.2.2.1
@[irreducible] noncomputable def s3 : Tok := ea.2.2.2.2.2.2.2.2.2.1
@[irreducible] noncomputable def xs : List (Nat × Nat × Nat) := ea.2.2.2.2.2.2.2.2.2.2.1
@[irreducible] noncomputable def t1 : Tok := ea.2.2.2.2.2.2.2.2.2.2.2.1
@[irreducible] noncomputable def cx : Cx := ea.2.2.2.2.2.2.2.2.2.2.2.2
set_option maxHeartbeats 4000000 in
noncomputable def sa : {P : Heap → Addr → Tok → Heap → Nat → (Nat × Nat × Tok × Tok) → (Str → Option Value) → Heap → Nat → Prop // Hid (∀ g' L' tz h9 tk c u h tkc, P g' L' tz h9 tk c u h tkc) → BisrP w news D T vs n x s1 s2 s3 xs t1 cx} := by
  refine' ⟨_, fun H => _⟩
  rotate_left
  · unfold BisrP ClaimAt
    intro hz hD hT hvs hsort B F X N T0 hk hdp hun hret
    have hlen : vs.size = xs.length := by have := hvs.len; rwa [Array.length_toList] at this
    refine wpAny_call ?_
    (k_dflt (refine' code_def ?k1 ?k2 ?k3 ?k4 ?k5 ?kA ?kF ?kK ?k6 ?k7 ?k8 ?k9 ?kB ?_ ?c2 ?c3 ?c4 ?c5; (case kA => exact rfl); (case kF => exact rfl); (case kK => assumption); (case k1 => k_asm); (case k2 => k_asm); (case k3 => k_asm); (case k4 => k_asm); (case k5 => k_asm); (case k6 => k_is); (case k7 => k_is); (case k8 => ktr_room); (case k9 => (refine' kp_binds ?kx ?ke; (case kx => k_in); (case ke => exact fun _ => rfl))); (case c5 => decide); (case kB => exact locs rfl); (case c2 => exact rfl); (case c3 => exact rfl); (case c4 => exact rfl); k_whole; intro g' L' h' FG' F' N' B' X' T'; (try dsimp only); (try k_fold)))
    k_steps
    unfold Hold
    rename_i tz kz h9 F9 N9
    with_unfolding_all refine' ksw_while (σ := Nat × Nat × Tok × Tok) (fun _ => news) (fun c => [(Str.ofString "lo", Value.int (c.1 : Nat) c.2.2.1), (Str.ofString "hi", Value.int (c.2.1 : Nat) c.2.2.2)]) (fun _ => True) [Str.ofString "lo", Str.ofString "hi", Str.ofString "mid"] (fun c => c.1 ≤ c.2.1 ∧ c.2.1 ≤ vs.size ∧ (∀ j, j < c.1 → ltB x (xs.getD j (0, 0, 0)) = false) ∧ ∀ j, c.2.1 ≤ j → j < xs.length → ltB x (xs.getD j (0, 0, 0)) = true) (fun c => c.2.1 - c.1) (0, vs.size, t1, tz) F9 N9 trivial ?w1 ?w2 ?w3
    case w1 => exact List.forall_mem_cons.mpr ⟨rfl, List.forall_mem_cons.mpr ⟨rfl, List.forall_mem_nil _⟩⟩
    case w2 => exact ⟨Nat.zero_le _, Nat.le_refl _, fun j h => absurd h (Nat.not_lt_zero _), fun j h1 h2 => absurd h2 (Nat.not_lt_of_le (hlen ▸ h1))⟩
    intro c u h tkc hTr hP F1 N1
    clear F9 N9
    revert hz hD hT hvs hsort B F X N T0 hk hdp hun hret hlen FG' B' X' T' hP F1 N1
    dsimp only
    exact H.out g' L' tz h9 tk c u h tkc
@[irreducible] noncomputable def eb : Heap × Addr × Tok × Heap × Nat × (Nat × Nat × Tok × Tok) × (Str → Option Value) × Heap × Nat := worst (hp0, 0, 0, hp0, 0, ((0, 0, 0, 0)), (fun _ => none), hp0, 0) fun e => sa.1 e.1 e.2.1 e.2.2.1 e.2.2.2.1 e.2.2.2.2.1 e.2.2.2.2.2.1 e.2.2.2.2.2.2.1 e.2.2.2.2.2.2.2.1 e.2.2.2.2.2.2.2.2
@[irreducible] noncomputable def g' : Heap := eb.1
@[irreducible] noncomputable def L' : Addr := eb.2.1
@[irreducible] noncomputable def tz : Tok := eb.2.2.1
@[irreducible] noncomputable def h9 : Heap := eb.2.2.2.1
@[irreducible] noncomputable def tk : Nat := eb.2.2.2.2.1
@[irreducible] noncomputable def c : Nat × Nat × Tok × Tok := eb.2.2.2.2.2.1
@[irreducible] noncomputable def u : Str → Option Value := eb.2.2.2.2.2.2.1
@[irreducible] noncomputable def h : Heap := eb.2.2.2.2.2.2.2.1
@[irreducible] noncomputable def tkc : Nat := eb.2.2.2.2.2.2.2.2
local macro_rules | `(tactic| walk_at "ite") => `(tactic| (first | (refine ite_pos (by first | omega | (simp only [decide_eq_true_eq]; omega)) ?_) | (refine ite_neg (by first | omega | (simp only [decide_eq_true_eq]; omega)) ?_)))
set_option maxHeartbeats 4000000 in
theorem sb : sa.1 g' L' tz h9 tk c u h tkc := by
  unfold sa
  dsimp only
  intro hz hD hT hvs hsort B F X N T0 hk hdp hun hret hlen FG' B' X' T' hP F1 N1
  obtain ⟨hc1, hc2, hc3, hc4⟩ := hP
  rcases Nat.lt_or_ge c.1 c.2.1 with hlt | hlt
  · have em : (((c.1 : Int) + (c.2.1 : Int)).fdiv 2).toNat = (c.1 + c.2.1) / 2 := by
      rw [Int.fdiv_eq_ediv_of_nonneg _ (by decide)]
      omega
    have em' : ((c.1 : Int) + (c.2.1 : Int)).fdiv 2 = ((c.1 + c.2.1) / 2 : Nat) := by
      rw [Int.fdiv_eq_ediv_of_nonneg _ (by decide)]
      omega
    have hms : (c.1 + c.2.1) / 2 < vs.size := by omega
    obtain ⟨T', u1, u2, u3, hvT, hm⟩ := hvs.get (k := (c.1 + c.2.1) / 2) (v := vs[(c.1 + c.2.1) / 2]) (by simp [hms])
    have hv : vs[(((c.1 : Int) + (c.2.1 : Int)).fdiv 2).toNat]? = some (.ref T') := by
      rw [em, ← hvT]
      simp [hms]
    have hm' : 0 ≤ ((c.1 : Int) + (c.2.1 : Int)).fdiv 2 ∧ ((c.1 : Int) + (c.2.1 : Int)).fdiv 2 < 2 ^ 62 := by
      rw [Int.fdiv_eq_ediv_of_nonneg _ (by decide)]
      omega
    obtain ⟨hm1, hm2⟩ := hm'
    have lo_eq : ∀ t : Tok, some (Value.int (((c.1 : Int) + (c.2.1 : Int)).fdiv 2 + 1) t) = some (Value.int (((c.1 + c.2.1) / 2 + 1 : Nat) : Int) t) := fun t => by rw [em']; rfl
    have hi_eq : ∀ t : Tok, some (Value.int (((c.1 : Int) + (c.2.1 : Int)).fdiv 2) t) = some (Value.int (((c.1 + c.2.1) / 2 : Nat) : Int) t) := fun t => by rw [em']
    have b1 : (c.1 + c.2.1) / 2 + 1 ≤ c.2.1 := by omega
    have b2 : c.1 ≤ (c.1 + c.2.1) / 2 := by omega
    have b3 : (c.1 + c.2.1) / 2 ≤ vs.size := by omega
    have mono : ∀ i j, i < j → j < xs.length → ltB (xs.getD i (0, 0, 0)) (xs.getD j (0, 0, 0)) = true := fun i j hij hj => (ltB_iff _ _).mpr (pairwise_getD (R := RunLt) (0, 0, 0) hsort hij hj)
    clear em
    cases hb : ltB x (xs.getD ((c.1 + c.2.1) / 2) (0, 0, 0)) with
    | true =>
      k_steps
      refine ksw_end (c.1, (c.1 + c.2.1) / 2, c.2.2.1, _) (by k_asm) (by k_asm) (fun _ h => h) trivial (List.forall_mem_cons.mpr ⟨?_, List.forall_mem_cons.mpr ⟨hi_eq _, List.forall_mem_nil _⟩⟩) ?_ ?_ ?_
      · rfl
      · intro z h2 h3
        have hz1 : z ≠ Str.ofString "lo" := h2 _ (.head _)
        have hz2 : z ≠ Str.ofString "hi" := h2 _ (.tail _ (.head _))
        have hz3 : z ≠ Str.ofString "mid" := by
          intro e; subst e; revert h3; decide
        simp only [kstB, if_neg hz1, if_neg hz2, if_neg hz3, h3, Bool.false_eq_true, if_false]
      · refine ⟨b2, b3, hc3, fun j hj hj' => ?_⟩
        rcases Nat.lt_or_eq_of_le hj with h | h
        · exact ltB_trans hb (mono _ j h hj')
        · exact h ▸ hb
      · show (c.1 + c.2.1) / 2 - c.1 < c.2.1 - c.1
        omega
    | false =>
      k_steps
      refine ksw_end ((c.1 + c.2.1) / 2 + 1, c.2.1, _, _) (by k_asm) (by k_asm) (fun _ h => h) trivial (List.forall_mem_cons.mpr ⟨lo_eq _, List.forall_mem_cons.mpr ⟨rfl, List.forall_mem_nil _⟩⟩) ?_ ?_ ?_
      · intro z h2 h3
        have hz1 : z ≠ Str.ofString "lo" := h2 _ (.head _)
        have hz2 : z ≠ Str.ofString "hi" := h2 _ (.tail _ (.head _))
        have hz3 : z ≠ Str.ofString "mid" := by
          intro e; subst e; revert h3; decide
        simp only [kstB, if_neg hz1, if_neg hz2, if_neg hz3, h3, Bool.false_eq_true, if_false]
      · refine ⟨b1, hc2, fun j hj => ?_, hc4⟩
        rcases Nat.lt_or_eq_of_le (Nat.le_of_lt_succ hj) with h | h
        · cases hq : ltB x (xs.getD j (0, 0, 0)) with
          | false => rfl
          | true => rw [ltB_trans hq (mono j _ h (by omega))] at hb; cases hb
        · exact h ▸ hb
      · show c.2.1 - ((c.1 + c.2.1) / 2 + 1) < c.2.1 - c.1
        omega
  · k_steps
    refine hret _ _ _ _ (by k_asm) (by k_asm) ⟨rfl, c.1, _, rfl, by omega, hc3, fun j h1 h2 => hc4 j (by omega) h2⟩
end BrN
theorem bisr_claim (w : World) (news : List (Addr × Obj)) (D T : Addr) (vs : Array Value) (n : Nat) (hz : vs.size ≤ 1000) (x : Nat × Nat × Nat) (s1 s2 s3 : Tok) (xs : List (Nat × Nat × Nat)) (hD : (D, listOf vs n) ∈ news)
    (hT : (T, tup3 x s1 s2 s3) ∈ news) (hvs : Trips news vs.toList xs) (hsort : xs.Pairwise RunLt) (t1 : Tok) :
    Claim w 53 6 news [.ref D, .ref T, .int 0 t1, .none] (fun v news' => news' = news ∧ ∃ (r : Nat) (t : Tok), v = .int r t ∧ CutR xs x r) :=
  claim_of fun c => of_worst (P := fun e => BisrP e.1 e.2.1 e.2.2.1 e.2.2.2.1 e.2.2.2.2.1 e.2.2.2.2.2.1 e.2.2.2.2.2.2.1 e.2.2.2.2.2.2.2.1 e.2.2.2.2.2.2.2.2.1 e.2.2.2.2.2.2.2.2.2.1 e.2.2.2.2.2.2.2.2.2.2.1 e.2.2.2.2.2.2.2.2.2.2.2.1 e.2.2.2.2.2.2.2.2.2.2.2.2) (c := BrN.ea) (by with_unfolding_all rfl) (by with_unfolding_all exact BrN.sa.2 (.mk fun a0_0 a0_1 a0_2 a0_3 a0_4 a0_5 a0_6 a0_7 a0_8 => of_worst (P := fun e => BrN.sa.1 e.1 e.2.1 e.2.2.1 e.2.2.2.1 e.2.2.2.2.1 e.2.2.2.2.2.1 e.2.2.2.2.2.2.1 e.2.2.2.2.2.2.2.1 e.2.2.2.2.2.2.2.2) (c := BrN.eb) (by with_unfolding_all rfl) (by with_unfolding_all exact BrN.sb) (a0_0, a0_1, a0_2, a0_3, a0_4, a0_5, a0_6, a0_7, a0_8))) (w, news, D, T, vs, n, x, s1, s2, s3, xs, t1, c) hz hD hT hvs hsort
end Mine
end

section
open PySem PySem.W PySem.W.X PyProof.Rows
set_option maxRecDepth 100000
namespace Mine
theorem fillK22 : PySem.Challenge.rw_xp0017_01 = PySem.Challenge.rw_xp0017_01 ∧ hd.heap_1 = hd.heap_1 := by
  w_top off
  k_fill
  exact ⟨rfl, rfl⟩
theorem kl_ins_nat (l : List Value) (k : Nat) (y : Value) (h : k ≤ l.length) : kl_ins l (k : Int) y = l.take k ++ y :: l.drop k := by
  unfold kl_ins
  rw [if_neg (by omega), show min ((k : Int).toNat) l.length = k by omega]
theorem fitsIndex_nat {k : Nat} (h : k ≤ 1000) : Builtin.List.listFitsIndex (k : Int) = true := by
  unfold Builtin.List.listFitsIndex
  simp only [Bool.and_eq_true, decide_eq_true_eq]
  omega
theorem insert_trips {led : List (Addr × Obj)} {vs : List Value} {xs : List (Nat × Nat × Nat)} {v : Value} {x : Nat × Nat × Nat} (h : Trips led vs xs) (hx : IsTrip led v x) (hs : xs.Pairwise RunLt) (hn : x ∉ xs) {r : Nat} (hr : CutR xs x r) :
    Trips led (vs.take r ++ v :: vs.drop r) (xs.take r ++ x :: xs.drop r) ∧ (xs.take r ++ x :: xs.drop r).Pairwise RunLt ∧ ∀ y, y ∈ xs.take r ++ x :: xs.drop r ↔ y = x ∨ y ∈ xs := by
  obtain ⟨h1, h2, h3⟩ := hr
  refine ⟨(h.take r).append (.cons hx (h.drop r)), insert_sorted hs (fun y hy => ?_) fun y hy => ?_, fun y => ?_⟩
  · obtain ⟨j, hj, rfl⟩ := List.getElem_of_mem hy
    have hj' : j < r ∧ j < xs.length := by rw [List.length_take] at hj; omega
    have e : (xs.take r)[j] = xs[j] := by rw [List.getElem_take]
    have hb := h2 j hj'.1
    rw [show xs.getD j (0, 0, 0) = xs[j] by simp [hj'.2]] at hb
    rw [e]
    rcases RunLt.total (a := x) (b := xs[j]) (fun e => hn (e ▸ List.getElem_mem hj'.2)) with c | c
    · rw [(ltB_iff _ _).mpr c] at hb; cases hb
    · exact c
  · obtain ⟨j, hj, rfl⟩ := List.getElem_of_mem hy
    have hj' : r + j < xs.length := by rw [List.length_drop] at hj; omega
    have e : (xs.drop r)[j] = xs[r + j] := by rw [List.getElem_drop]
    have hb := h3 (r + j) (by omega) hj'
    rw [show xs.getD (r + j) (0, 0, 0) = xs[r + j] by simp [hj']] at hb
    rw [e]
    exact (ltB_iff _ _).mp hb
  · have e : y ∈ xs ↔ y ∈ xs.take r ∨ y ∈ xs.drop r := by rw [← List.mem_append, List.take_append_drop]
    rw [List.mem_append, List.mem_cons, e]
    constructor
    · rintro (h | h | h)
      · exact .inr (.inl h)
      · exact .inl h
      · exact .inr (.inr h)
    · rintro (h | h | h)
      · exact .inr (.inl h)
      · exact .inl h
      · exact .inr (.inr h)
def Hold5 (P : Prop) : Prop := P
theorem stopHere5 {P : Prop} (h : Hold5 P) : P := h
set_option hygiene false in
local macro_rules | `(tactic| walk_at "call ref") => `(tactic| (k_dflt (refine' claim_use (bisr_claim w _ D T vs n hz x _ _ _ xs (.head _) (.tail _ hT) hvs' hsort _) ?k1 ?k2 ?k3 ?k4 ?k5 ?k6 ?k7 ?k8 ?_; (case k1 => k_asm); (case k2 => k_asm); (case k3 => k_asm); (case k4 => k_asm); (case k5 => k_asm); (case k6 => exact rfl); (case k7 => (dsimp only [ktrTop]; omega)); (case k8 => (dsimp only [ktrTop]; omega))); intro v' news' h' tk' F' N' hp'; obtain ⟨hnn, r', t', hvv, hcut⟩ := hp'; subst hnn; subst hvv))
local macro_rules | `(tactic| walk_at "getMethod ref") => `(tactic| (k_dflt (refine' kl_method ?N ?m PySem.F.slot_list_insert PySem.F.type_list_insert ?_; (case N => k_asm); (case m => exact .head _); k_whole)))
local macro_rules | `(tactic| walk_at "call builtin:list.insert") => `(tactic| (refine stopHere5 ?_))
set_option maxHeartbeats 4000000 in
theorem insort_claim (w : World) (rest : List (Addr × Obj)) (D T : Addr) (vs : Array Value) (n : Nat) (hz : vs.size ≤ 1000) (x : Nat × Nat × Nat) (s1 s2 s3 : Tok) (xs : List (Nat × Nat × Nat)) (hDn : ∀ p ∈ rest, p.1 ≠ D)
    (led : List (Addr × Obj)) (hsub : ∀ p ∈ led, p ∈ rest) (hTl : (T, tup3 x s1 s2 s3) ∈ led) (hvl : Trips led vs.toList xs) (hsort : xs.Pairwise RunLt) (hnot : x ∉ xs) :
    Claim w 44 12 ((D, listOf vs n) :: rest) [.ref D, .ref T] (fun v news' => v = .none ∧ ∃ vs' n' xs', news' = (D, listOf vs' n') :: rest ∧ Trips led vs'.toList xs' ∧ xs'.Pairwise RunLt ∧ vs'.size = vs.size + 1 ∧ ∀ y, y ∈ xs' ↔ y = x ∨ y ∈ xs) := by
  unfold Claim
  intro p loose mean mg mb dp un gd cn cs a ccd cl outer A₀ base h₀ L m s Q E B F X N T0 hk hdp hun hret
  have hT : (T, tup3 x s1 s2 s3) ∈ rest := hsub _ hTl
  have hvs' : Trips ((D, listOf vs n) :: rest) vs.toList xs := hvl.mono fun p hp => .tail _ (hsub p hp)
  have hlen : vs.size = xs.length := by have := hvl.len; rwa [Array.length_toList] at this
  refine wpAny_call ?_
  (k_dflt (refine' code_def ?k1 ?k2 ?k3 ?k4 ?k5 ?kA ?kF ?kK ?k6 ?k7 ?k8 ?k9 ?kB ?_ ?c2 ?c3 ?c4 ?c5; (case kA => exact rfl); (case kF => exact rfl); (case kK => assumption); (case k1 => k_asm); (case k2 => k_asm); (case k3 => k_asm); (case k4 => k_asm); (case k5 => k_asm); (case k6 => k_is); (case k7 => k_is); (case k8 => ktr_room); (case k9 => (refine' kp_binds ?kx ?ke; (case kx => k_in); (case ke => exact fun _ => rfl))); (case c5 => decide); (case kB => exact locs rfl); (case c2 => exact rfl); (case c3 => exact rfl); (case c4 => exact rfl); k_whole; intro g' L' h' FG' F' N' B' X' T'; (try dsimp only); (try k_fold)))
  k_steps
  unfold Hold5
  rename Fr g' L' _ _ => F9
  rename News g' L' _ _ => N9
  rename CutR _ _ _ => hcut
  k_dflt refine kl_insert (s := ⟨_, _, _, _, _⟩) F9 N9 (fitsIndex_nat (by have := hcut.1; omega)) (kl_ins_nat _ _ _ (by have := hcut.1; rw [Array.length_toList]; omega)) (.head hDn) (by rw [Array.length_toList, sizeLine_eq]; omega) ?_
  intro h10 F10 N10
  clear F9 N9
  k_steps
  obtain ⟨y1, y2, y3⟩ := insert_trips hvl ⟨T, _, _, _, rfl, hTl⟩ hsort hnot hcut
  refine hret _ _ _ _ (by k_asm) (by k_asm) ⟨rfl, _, _, _, rfl, y1, y2, ?_, y3⟩
  have := hcut.1
  rw [List.size_toArray, List.length_append, List.length_cons, List.length_take, List.length_drop, Array.length_toList]
  omega
end Mine
end

section
open PySem PySem.W PyProof.Rows PyProof.Rows.LCg
set_option maxRecDepth 100000
namespace Mine
theorem fillK17 : PySem.Challenge.rw_xp0017_01 = PySem.Challenge.rw_xp0017_01 ∧ hd.heap_1 = hd.heap_1 := by
  w_top off
  k_fill
  exact ⟨rfl, rfl⟩
def Hold4 (P : Prop) : Prop := P
theorem stopHere4 {P : Prop} (h : Hold4 P) : P := h
def PageSigns (l : List Nat) : Prop := ∀ c ∈ l, c = 38 ∨ c = 60 ∨ c = 62 ∨ c = 13 ∨ c = 45
theorem join_none : ∀ l : List Nat, Txt.join (Str.ofString "") (l.map fun c => S (escCode c)) = S (l.flatMap escCode)
  | [] => rfl
  | [c] => by
    show S (escCode c) = S ([c].flatMap escCode)
    simp
  | c :: d :: r => by
    have ih := join_none (d :: r)
    have ej := StrLaws.glued_eq_join (Str.ofString "") (((c :: d :: r)).map fun c => S (escCode c))
    have ej2 := StrLaws.glued_eq_join (Str.ofString "") ((d :: r).map fun c => S (escCode c))
    refine ej.trans ?_
    rw [show Txt.join (Str.ofString "") ((d :: r).map fun c => S (escCode c)) = _ from ej2] at ih
    show S (escCode c) ++ Str.ofString "" ++ Str.join (Str.ofString "") ((d :: r).map fun c => S (escCode c)) = S ((c :: d :: r).flatMap escCode)
    have e : (Str.ofString "") = S [] := by decide
    rw [ih, e, S_app, S_app, List.append_nil, ← List.flatMap_cons]
theorem esc_one (c : Nat) : (escCode c).length ≤ 5 := by
  unfold escCode
  split
  · decide
  · split
    · decide
    · split
      · decide
      · split
        · decide
        · simp
theorem esc_room (l : List Nat) (hl : l.length ≤ 1000) : ((l.map fun c => S (escCode c)).map (·.length)).sum + (l.map fun c => S (escCode c)).length ≤ 1048576 := by
  have : ((l.map fun c => S (escCode c)).map (·.length)).sum ≤ 5 * l.length := by
    clear hl
    induction l with
    | nil => simp
    | cons c r ih =>
      rw [List.map_cons, List.map_cons, List.sum_cons, S_len, List.length_cons]
      have := esc_one c
      omega
  rw [List.length_map]
  omega
theorem sg1 : (⟨#[38]⟩ : Str) = Str.ofString "&" := by decide
theorem sg2 : (⟨#[60]⟩ : Str) = Str.ofString "<" := by decide
theorem sg3 : (⟨#[62]⟩ : Str) = Str.ofString ">" := by decide
theorem sg4 : (⟨#[13]⟩ : Str) = Str.ofString "\r" := by decide
theorem sg5 : (⟨#[45]⟩ : Str) = Str.ofString "-" := by decide
theorem es1 : S (escCode 38) = Str.ofString "&amp;" := by decide
theorem es2 : S (escCode 60) = Str.ofString "&lt;" := by decide
theorem es3 : S (escCode 62) = Str.ofString "&gt;" := by decide
theorem es4 : S (escCode 13) = Str.ofString "&#xD;" := by decide
theorem es5 : S (escCode 45) = Str.ofString "-" := by decide
section
variable {prog : Program} {w : World} {K : Type} [DecidableEq K] {knd : KeyKind prog w K} {A : Around} {E : Value → Shared → Prop} {s : Shared} {h₀ : Heap} {L d : Addr} {news : List (Addr × Obj)} {o : Obj} {kvs : List (K × Value)} {k : K} {key v dflt : Value}
theorem names_in {Q : Value → Shared → Prop} (N : News h₀ L s.heap news) (hp : (d, o) ∈ news) (hd : o.IsDictOf knd kvs) (lo : (d == sysModules) = false) (hkey : knd.is k key = true) (b : Bool) (hb : (valueAt kvs k).isSome = b) (h : Q (.bool b) { s with toks := s.toks + 1 }) :
    wpAny (model prog w) A (compareOp .In key (.ref d)) Q E s := wpAny_in_of hkey lo (kda_dict N hp hd).mapOf (by rw [hb]; exact h)
end
local macro_rules | `(tactic| walk_at "compareOp In str ref") => `(tactic| (k_dflt (first | refine names_in (knd := PySem.strKind _ _) (by k_asm) (by k_mem) (by k_asm) (by k_asm) (strKind_is _ _ _ _) true (by rfl) ?_ | refine names_in (knd := PySem.strKind _ _) (by k_asm) (by k_mem) (by k_asm) (by k_asm) (strKind_is _ _ _ _) false (by rfl) ?_)))
local macro_rules | `(tactic| walk_at "eval ListComp") => `(tactic| (refine stopHere4 ?_))
local macro_rules | `(tactic| walk_at "call builtin:str.join") => `(tactic| (refine stopHere4 ?_))
local macro_rules | `(tactic| k_all) => `(tactic| assumption)
set_option maxHeartbeats 4000000 in
theorem spelled_claim (w : World) (news : List (Addr × Obj)) (l : List Nat) (hl : l.length ≤ 1000) (hs : PageSigns l) (t : Tok) :
    Claim w 192 8 news [.str (S l) t] (fun v news' => news' = news ∧ ∃ t, v = .str (S (l.flatMap escCode)) t) := by
  unfold Claim
  intro p loose mean mg mb dp un gd cn cs a ccd cl outer A₀ base h₀ L m s Q E B F X N T hk hdp hun hret
  refine wpAny_call ?_
  (k_dflt (refine' code_defC ?k1 ?k2 ?k3 ?k4 ?k5 ?kA ?kF ?kK ?k6 ?k7 ?k8 ?k9 ?kB ?kD ?_ ?c2 ?c3 ?c4; (case kA => exact rfl); (case kF => exact rfl); (case kK => assumption); (case k1 => k_asm); (case k2 => k_asm); (case k3 => k_asm); (case k4 => k_asm); (case k5 => k_asm); (case k6 => k_is); (case k7 => k_is); (case k8 => ktr_room); (case k9 => first | exact BindsTo.of_eq rfl | exact binds_K (by k_in) rfl (by k_is) rfl rfl rfl | fail "k_enter: no rule for these arguments"); (case kB => exact rfl); (case kD => decide +kernel); (case c2 => exact rfl); (case c3 => exact rfl); (case c4 => exact rfl); k_whole; intro g' L' h' tk' cells' FG' F' N' Y' B' X' T' l1; (try k_lt l1); k_cells Y'; (try simp only [List.cons_append, List.nil_append] at N'); (try dsimp only); (try k_lift B'); (try k_fold)))
  have hnl : ∀ p ∈ news, p.1 ≠ L' + 1 := fun p hp => Nat.ne_of_lt (Nat.lt_succ_of_lt (by first | exact l1 p hp | exact allLt_to l1 p hp))
  k_steps
  unfold Hold4
  rename Fr g' L' _ _ => F1
  rename News g' L' _ _ => N1
  k_dflt refine' comp_name (s := ⟨_, _, _, _, _⟩) (l := l) (t := t) (fun c => S (escCode c)) F1 N1 ?z0 ?z8 hl ?z1 ?z2 ?z3 ?z4 ?z5 ?z6 ?z9 ?z10 ?z11 ?z12 ?z13
  case z0 => rfl
  case z8 => intro c hc; rcases hs c hc with rfl | rfl | rfl | rfl | rfl <;> decide
  case z1 => exact rfl
  case z2 => decide
  case z3 => rfl
  case z4 => decide
  case z5 => rfl
  case z6 => rfl
  case z9 => rfl
  case z10 => rfl
  case z11 => rfl
  case z12 =>
    intro k tq I oI C oC D m₂ ys h' tk E' hkm hC hx F2 N2 off ne
    clear F1 N1
    rcases hs k hkm with rfl | rfl | rfl | rfl | rfl
    · rw [sg1] at hx
      rw [es1]
      k_steps
      rename Fr g' L' _ _ => F3
      rename News g' L' _ _ => N3
      exact CompEnd.intro F3 N3 _ (fun p hp => hp) off trivial ⟨rfl, _, rfl⟩
    · rw [sg2] at hx
      rw [es2]
      k_steps
      rename Fr g' L' _ _ => F3
      rename News g' L' _ _ => N3
      exact CompEnd.intro F3 N3 _ (fun p hp => hp) off trivial ⟨rfl, _, rfl⟩
    · rw [sg3] at hx
      rw [es3]
      k_steps
      rename Fr g' L' _ _ => F3
      rename News g' L' _ _ => N3
      exact CompEnd.intro F3 N3 _ (fun p hp => hp) off trivial ⟨rfl, _, rfl⟩
    · rw [sg4] at hx
      rw [es4]
      k_steps
      rename Fr g' L' _ _ => F3
      rename News g' L' _ _ => N3
      exact CompEnd.intro F3 N3 _ (fun p hp => hp) off trivial ⟨rfl, _, rfl⟩
    · rw [sg5] at hx
      rw [es5]
      k_steps
      rename Fr g' L' _ _ => F3
      rename News g' L' _ _ => N3
      exact CompEnd.intro F3 N3 _ (fun p hp => hp) off trivial ⟨rfl, _, rfl⟩
  case z13 =>
    intro D h tk ys hys F2 N2 hoff
    clear F1 N1
    k_steps
    unfold Hold4
    rename Fr g' L' _ _ => F3
    rename News g' L' _ _ => N3
    refine join_listW (ys := l.map fun c => S (escCode c)) ⟨_, (N3 _ (.head _)).1, rfl, _, rfl⟩ (by simpa using hys) (by decide) (esc_room l hl) ?_
    intro t9 k9
    rw [join_none]
    k_steps
    refine hret _ _ _ _ (by k_asm) (fun p hp => ?_) ⟨rfl, _, rfl⟩
    rename News h₀ L _ _ => N4
    exact N4 p (by simp only [List.mem_cons]; exact .inr (.inr (.inr hp)))
end Mine
end

section
open PySem PySem.W PySem.W.X PyProof.Rows
set_option maxRecDepth 100000
namespace Mine
theorem fillK23 : PySem.Challenge.rw_xp0017_01 = PySem.Challenge.rw_xp0017_01 ∧ hd.heap_1 = hd.heap_1 := by
  w_top off
  k_fill
  exact ⟨rfl, rfl⟩
section
variable {prog : Program} {w : World} {A : Around} {E : Value → Shared → Prop} {s : Shared} {value slice : PySem.Expr} {l : List Nat} {t u : Tok} {h₀ : Heap} {L : Addr} {m : Str → Option Value} {news : List (Addr × Obj)} {Q : Value → Shared → Prop}
theorem s_rangeN {i' j' : Int} {ui uj : Tok} (i j : Nat) (hi : i' = (i : Int)) (hj : j' = (j : Int)) (hF : Fr h₀ L s.heap m) (hN : News h₀ L s.heap news) (h1 : i ≤ j) (h2 : j ≤ l.length) (hz : l.length ≤ 1000) (h : ∀ h' t' k, Fr h₀ L h' m → News h₀ L h' news → Q (.str (S ((l.drop i).take (j - i))) t') { s with heap := h', toks := k })
    (hs : subscripted slice false (.str (S l) t) (.ref s.heap.objs.size) = operate [.ref s.heap.objs.size, .str (S l) t] (getItem (.str (S l) t) (.ref s.heap.objs.size)) := by with_unfolding_all rfl)
    (ht : ∀ r, letTemporaryGo value (.str (S l) t) r = pure () := by intro _; with_unfolding_all rfl) :
    wpAny (model prog w) A (subscriptTail value slice (.str (S l) t) (.ref s.heap.objs.size)) Q E { s with heap := s.heap.push { cls := .type "slice", data := .fields #[.int i' ui, .int j' uj, .none] } } := by
  subst hi hj
  refine s_range hF hN (by omega) (by omega) (by omega) hz (fun h' t' k a b => ?_) hs ht
  have e1 : ((i : Nat) : Int).toNat = i := by omega
  have e2 : (((j : Nat) : Int) - (i : Nat)).toNat = j - i := by omega
  rw [e1, e2]
  exact h h' t' k a b
theorem s_itemN {i' : Int} {ui : Tok} (i : Nat) (hi : i' = (i : Int)) (h1 : i < l.length) (hz : l.length ≤ 1000) (h : ∀ t' k, Q (.str (S [l.getD i 0]) t') { s with toks := k })
    (hs : subscripted slice false (.str (S l) t) (.int i' ui) = operate [.str (S l) t, .int i' ui] (getItem (.str (S l) t) (.int i' ui)) := by with_unfolding_all rfl)
    (ht : ∀ r, letTemporaryGo value (.str (S l) t) r = pure () := by intro _; with_unfolding_all rfl) :
    wpAny (model prog w) A (subscriptTail value slice (.str (S l) t) (.int i' ui)) Q E s := by
  subst hi
  refine s_item (by omega) (by omega) hz ?_ hs ht
  have e1 : ((i : Nat) : Int).toNat = i := by omega
  rw [e1]
  exact h _ _
theorem S_inj {a b : List Nat} (h : S a = S b) : a = b := by
  have h2 : (S a).cps.toList = (S b).cps.toList := by rw [h]
  rwa [S_list, S_list] at h2
theorem S_bne (a b : List Nat) : (S a != S b) = (a != b) := by
  by_cases h : a = b
  · subst h; simp
  · have h1 : (a != b) = true := by simp [h]
    have h2 : (S a != S b) = true := bne_iff_ne.mpr fun e => h (S_inj e)
    rw [h1, h2]
theorem s_ne1 {x y : Nat} (h : Q (.bool ((x : Int) != (y : Int))) s) : wpAny (model prog w) A (compareOp .NotEq (.str (S [x]) t) (.str (S [y]) u)) Q E s := by
  refine ne_str ?_
  have e : ([x] != [y]) = ((x : Int) != (y : Int)) := by
    by_cases hxy : x = y
    · subst hxy; simp
    · have h1 : ([x] != [y]) = true := by simp [hxy]
      have h2 : ((x : Int) != (y : Int)) = true := by simp; omega
      rw [h1, h2]
  rw [S_bne, e]; exact h
theorem s_ne2 {a b : List Nat} {r : Bool} (hr : (a != b) = r) (h : Q (.bool r) s) : wpAny (model prog w) A (compareOp .NotEq (.str (S a) t) (.str (S b) u)) Q E s := by
  refine ne_str ?_
  rw [S_bne, hr]; exact h
end
/-- the two cuts that are compared for a period d -/
def CutL (l : List Nat) (b e d : Nat) : List Nat := (l.drop (b + d)).take (e - (b + d))
def CutR' (l : List Nat) (b e d : Nat) : List Nat := (l.drop b).take (e - d - b)
theorem cuts_eq {l : List Nat} {b e d : Nat} (hd : b + d ≤ e) (he : e ≤ l.length) : CutL l b e d = CutR' l b e d ↔ ∀ x, b ≤ x → x + d < e → l.getD x 0 = l.getD (x + d) 0 := by
  unfold CutL CutR'
  constructor
  · intro h x h1 h2
    have h3 := congrArg (fun z : List Nat => z.getD (x - b) 0) h
    simp only [List.getD_eq_getElem?_getD, List.getElem?_take, List.getElem?_drop] at h3 ⊢
    rw [if_pos (by omega), if_pos (by omega), show b + d + (x - b) = x + d by omega, show b + (x - b) = x by omega] at h3
    exact h3.symm
  · intro h
    apply List.ext_getElem?
    intro i
    simp only [List.getElem?_take, List.getElem?_drop]
    rw [show e - d - b = e - (b + d) by omega]
    by_cases hi : i < e - (b + d)
    · rw [if_pos hi, if_pos hi]
      have h3 := h (b + i) (by omega) (by omega)
      have g1 : b + d + i < l.length := by omega
      have g2 : b + i < l.length := by omega
      rw [show b + i + d = b + d + i by omega] at h3
      simp [g1, g2] at h3 ⊢
      exact h3.symm
    · rw [if_neg hi, if_neg hi]
/-- sz is the least period of the stretch -/
structure LeastP (f : Nat → Nat) (b e sz : Nat) : Prop where
  pos : 1 ≤ sz
  per : ∀ x, b ≤ x → x + sz < e → f x = f (x + sz)
  least : ∀ d, 1 ≤ d → d < sz → ∃ x, b ≤ x ∧ x + d < e ∧ f x ≠ f (x + d)
theorem LeastP.run_iff {f : Nat → Nat} {n b e sz : Nat} (h : LeastP f b e sz) (hen : e ≤ n) (p : Nat) :
    IsRun f n b e p ↔ p = sz ∧ b + 2 * sz ≤ e ∧ (b = 0 ∨ f (b - 1) ≠ f (b - 1 + sz)) ∧ (e = n ∨ f e ≠ f (e - sz)) := by
  constructor
  · intro r
    have hps : p = sz := by
      rcases Nat.lt_trichotomy p sz with c | c | c
      · obtain ⟨x, a1, a2, a3⟩ := h.least p r.pos c
        exact absurd (r.per x a1 a2) a3
      · exact c
      · obtain ⟨x, a1, a2, a3⟩ := r.least sz h.pos c
        exact absurd (h.per x a1 a2) a3
    subst hps
    exact ⟨rfl, r.len, r.left, r.right⟩
  · rintro ⟨rfl, h1, h2, h3⟩
    exact ⟨h.pos, h1, hen, h.per, h.least, h2, h3⟩
structure RS where
  its : Array Value
  n : Nat
  tups : List (Addr × Obj)
  xs : List (Nat × Nat × Nat)
/-- the runs that begin ahead of i, or at i and end ahead of e -/
def RunsTo (f : Nat → Nat) (n i e : Nat) (xs : List (Nat × Nat × Nat)) : Prop := xs.Pairwise RunLt ∧ ∀ x, x ∈ xs ↔ IsRun f n x.1 x.2.1 x.2.2 ∧ (x.1 < i ∨ x.1 = i ∧ x.2.1 < e)
theorem RunsTo.start (f : Nat → Nat) (n : Nat) : RunsTo f n 0 0 [] := ⟨.nil, fun x => by simp⟩
theorem RunsTo.up {f : Nat → Nat} {n i : Nat} {xs : List (Nat × Nat × Nat)} (h : RunsTo f n i (n + 1) xs) : RunsTo f n (i + 1) 0 xs := ⟨h.1, fun x => by
  rw [h.2 x]
  refine and_congr_right fun r => ?_
  have := r.le
  omega⟩
theorem RunsTo.down {f : Nat → Nat} {n i : Nat} {xs : List (Nat × Nat × Nat)} (h : RunsTo f n i 0 xs) : RunsTo f n i (i + 2) xs := ⟨h.1, fun x => by
  rw [h.2 x]
  refine and_congr_right fun r => ?_
  have := r.len
  have := r.pos
  omega⟩
theorem RunsTo.no {f : Nat → Nat} {n i e sz : Nat} {xs : List (Nat × Nat × Nat)} (h : RunsTo f n i e xs) (hp : LeastP f i e sz) (hen : e ≤ n) (hno : ¬ (i + 2 * sz ≤ e ∧ (i = 0 ∨ f (i - 1) ≠ f (i - 1 + sz)) ∧ (e = n ∨ f e ≠ f (e - sz)))) : RunsTo f n i (e + 1) xs := ⟨h.1, fun x => by
  rw [h.2 x]
  refine and_congr_right fun r => ?_
  constructor
  · omega
  · rintro (c | ⟨c1, c2⟩)
    · exact .inl c
    · refine .inr ⟨c1, ?_⟩
      rcases Nat.lt_or_ge x.2.1 e with c | c
      · exact c
      · have : x.2.1 = e := by omega
        rw [c1, this] at r
        exact absurd ((hp.run_iff hen _).mp r).2 hno⟩
theorem RunsTo.yes {f : Nat → Nat} {n i e sz : Nat} {xs : List (Nat × Nat × Nat)} (h : RunsTo f n i e xs) (hp : LeastP f i e sz) (hen : e ≤ n) (hy : i + 2 * sz ≤ e ∧ (i = 0 ∨ f (i - 1) ≠ f (i - 1 + sz)) ∧ (e = n ∨ f e ≠ f (e - sz))) : RunsTo f n i (e + 1) (xs ++ [(i, e, sz)]) := by
  refine ⟨List.pairwise_append.mpr ⟨h.1, List.pairwise_singleton .., fun a ha c hc => ?_⟩, fun x => ?_⟩
  · rw [List.mem_singleton.mp hc]
    have := ((h.2 a).mp ha).2
    unfold RunLt
    simp only
    omega
  · rw [List.mem_append, List.mem_singleton, h.2 x]
    constructor
    · rintro (⟨r, c⟩ | rfl)
      · exact ⟨r, by omega⟩
      · exact ⟨(hp.run_iff hen _).mpr ⟨rfl, hy⟩, by simp⟩
    · rintro ⟨r, c | ⟨c1, c2⟩⟩
      · exact .inl ⟨r, .inl c⟩
      · rcases Nat.lt_or_ge x.2.1 e with c | c
        · exact .inl ⟨r, .inr ⟨c1, c⟩⟩
        · have h2 : x.2.1 = e := by omega
          obtain ⟨x1, x2, x3⟩ := x
          simp only at c1 h2 r
          subst c1 h2
          exact .inr (by rw [((hp.run_iff hen _).mp r).1])
end Mine
end

section
open PySem PySem.W PySem.W.X PyProof.Rows
set_option maxRecDepth 100000
namespace Mine
theorem fillK24 : PySem.Challenge.rw_xp0017_01 = PySem.Challenge.rw_xp0017_01 ∧ hd.heap_1 = hd.heap_1 := by
  w_top off
  k_fill
  exact ⟨rfl, rfl⟩
def Hold6 (P : Prop) : Prop := P
theorem stopHere6 {P : Prop} (h : Hold6 P) : P := h
local macro_rules | `(tactic| walk_at "exec While") => `(tactic| (refine stopHere6 ?_))
local macro_rules | `(tactic| walk_at "pyIter ref") => `(tactic| (refine stopHere6 ?_))
local macro_rules | `(tactic| walk_at "GenPost") => `(tactic| (refine stopHere6 ?_))
local macro_rules | `(tactic| walk_at "GenEnd") => `(tactic| (refine stopHere6 ?_))
local macro_rules | `(tactic| walk_at "call builtin:list.append") => `(tactic| (k_dflt (refine stopHere6 ?_)))
local macro_rules | `(tactic| walk_at "call builtin:len") => `(tactic| (k_dflt (refine' s_len ?zza ?_; (case zza => omega))))
local macro_rules | `(tactic| walk_at "exec For") => `(tactic| ((rename Fr _ _ _ _ => lF'); (with_unfolding_all refine' For_invVF lF' ?k1 ?k2 ?_; (case k1 => exact rfl); (case k2 => exact rfl); k_whole)))
set_option hygiene false in
local macro_rules | `(tactic| walk_at "subscriptTail") => `(tactic| ((with_reducible show wpAny _ _ (subscriptTail _ _ (Value.str _ _) (Value.ref _)) _ _ _); (with_reducible rename Fr _ _ _ _ => F'); (with_reducible rename News _ _ _ _ => N'); k_dflt (first
  | (refine' s_rangeN (s := ⟨_, _, _, _, _⟩) (b + sz) e ?zzi ?zzj F' N' ?zza ?zzb ?zzc ?_; (case zzi => omega); (case zzj => omega); (case zza => omega); (case zzb => omega); (case zzc => omega))
  | (refine' s_rangeN (s := ⟨_, _, _, _, _⟩) b (e - sz) ?zzi ?zzj F' N' ?zza ?zzb ?zzc ?_; (case zzi => omega); (case zzj => omega); (case zza => omega); (case zzb => omega); (case zzc => omega))); intro h' t' k' F' N'; (try k_sweep)))
set_option hygiene false in
local macro_rules | `(tactic| walk_at "subscriptTail") => `(tactic| ((with_reducible show wpAny _ _ (subscriptTail _ _ (Value.str _ _) (Value.int _ _)) _ _ _); k_dflt (first
  | (refine' s_itemN (b - 1) ?zzi ?zza ?zzc ?_; (case zzi => omega); (case zza => omega); (case zzc => omega))
  | (refine' s_itemN (b - 1 + sz) ?zzi ?zza ?zzc ?_; (case zzi => omega); (case zza => omega); (case zzc => omega))
  | (refine' s_itemN e ?zzi ?zza ?zzc ?_; (case zzi => omega); (case zza => omega); (case zzc => omega))
  | (refine' s_itemN (e - sz) ?zzi ?zza ?zzc ?_; (case zzi => omega); (case zza => omega); (case zzc => omega))); intro t' k'))
set_option hygiene false in
local macro_rules | `(tactic| walk_at "subscriptTail Name Name str int") => `(tactic| ((with_reducible show wpAny _ _ (subscriptTail _ _ (Value.str _ _) (Value.int _ _)) _ _ _); k_dflt (first
  | (refine' s_itemN e ?zzi ?zza ?zzc ?_; (case zzi => omega); (case zza => omega); (case zzc => omega))); intro t' k'))
set_option hygiene false in
local macro_rules | `(tactic| walk_at "compareOp NotEq str str") => `(tactic| (first | (with_reducible refine s_ne2 hr ?_) | (with_reducible refine s_ne1 ?_)))
abbrev RunsArg : Type := (World × List (Addr × Obj) × List Nat × Tok) × Cx
def RunsP (w : World) (news : List (Addr × Obj)) (l : List Nat) (t : Tok) (c : Cx) : Prop :=
  l.length ≤ 9 → ClaimAt w 187 8 news [.str (S l) t] (fun v news' => ∃ R its n tups xs, v = .ref R ∧ news' = (R, listOf its n) :: (tups ++ news) ∧ Trips tups its.toList xs ∧ RunsTo (fun x => l.getD x 0) l.length l.length 0 xs ∧ its.size ≤ 81) c
namespace RN
@[irreducible] noncomputable def ea : RunsArg := worst ((w0, [], [], 0), cx0) fun e => RunsP e.1.1 e.1.2.1 e.1.2.2.1 e.1.2.2.2 e.2
@[irreducible] noncomputable def w : World := ea.1.1
@[irreducible] noncomputable def news : List (Addr × Obj) := ea.1.2.1
@[irreducible] noncomputable def l : List Nat := ea.1.2.2.1
@[irreducible] noncomputable def t : Tok := ea.1.2.2.2
@[irreducible] noncomputable def cx : Cx := ea.2
set_option maxHeartbeats 16000000 in
noncomputable def sa : {P : Heap → Addr → Addr → Heap → Nat → Heap → Nat → Tok → Tok → Tok → Prop // Hid (∀ g' L' R h2 tk h3 tk2 ta ua va, P g' L' R h2 tk h3 tk2 ta ua va) → RunsP w news l t cx} := by
  refine' ⟨_, fun H => _⟩
  rotate_left
  · unfold RunsP ClaimAt
    intro hl B F X N T0 hk hdp hun hret
    refine wpAny_call ?_
    k_dflt ktr_enter
    rename_i g' L' h' FG' F' N' B' X' T'
    k_steps
    unfold Hold6
    rename_i tk1 R h1 lR h2 F2 N2 h3 tk2 ta ua va rg F3 N3 k3
    clear F2 N2 k3
    revert hl B F X N T0 hk hdp hun hret FG' B' X' T' lR rg F3 N3

    exact H.out g' L' R h2 tk h3 tk2 ta ua va
@[irreducible] noncomputable def eb : Heap × Addr × Addr × Heap × Nat × Heap × Nat × Tok × Tok × Tok := worst (hp0, 0, 0, hp0, 0, hp0, 0, 0, 0, 0) fun e => sa.1 e.1 e.2.1 e.2.2.1 e.2.2.2.1 e.2.2.2.2.1 e.2.2.2.2.2.1 e.2.2.2.2.2.2.1 e.2.2.2.2.2.2.2.1 e.2.2.2.2.2.2.2.2.1 e.2.2.2.2.2.2.2.2.2
@[irreducible] noncomputable def g' : Heap := eb.1
@[irreducible] noncomputable def L' : Addr := eb.2.1
@[irreducible] noncomputable def R : Addr := eb.2.2.1
@[irreducible] noncomputable def h2 : Heap := eb.2.2.2.1
@[irreducible] noncomputable def tk : Nat := eb.2.2.2.2.1
@[irreducible] noncomputable def h3 : Heap := eb.2.2.2.2.2.1
@[irreducible] noncomputable def tk2 : Nat := eb.2.2.2.2.2.2.1
@[irreducible] noncomputable def ta : Tok := eb.2.2.2.2.2.2.2.1
@[irreducible] noncomputable def ua : Tok := eb.2.2.2.2.2.2.2.2.1
@[irreducible] noncomputable def va : Tok := eb.2.2.2.2.2.2.2.2.2
set_option maxHeartbeats 16000000 in
noncomputable def sb : {P : Nat → Tok → (Str → Option Value) → Addr → Heap → Nat → Obj → RS → Nat → Tok → (Str → Option Value) → Addr → Heap → Nat → Obj → Nat → Heap → Nat → Tok → (Str → Option Value) → Heap → Nat → Prop // Hid (∀ b ti u I bh btk o' c2 j tj u2 I2 h9 tk9 o2 e hw sz tsz u3 h11 tk11, P b ti u I bh btk o' c2 j tj u2 I2 h9 tk9 o2 e hw sz tsz u3 h11 tk11) → sa.1 g' L' R h2 tk h3 tk2 ta ua va} := by
  refine' ⟨_, fun H => _⟩
  rotate_left
  · unfold sa
    dsimp only
    intro hl B F X N T0 hk hdp hun hret FG' B' X' T' lR rg F3 N3
    refine gen_range (n := l.length) (fun c : RS => (R, listOf c.its c.n) :: (c.tups ++ news)) (fun _ => []) (fun c => Trips c.tups c.its.toList c.xs ∧ ∀ p ∈ c.tups, p.1 ≠ R) ["end", "size"] (fun i c => RunsTo (fun x => l.getD x 0) l.length i 0 c.xs ∧ c.its.size ≤ i * 9) ⟨#[], 0, [], []⟩
      rfl rg (small_one (by omega) (by omega) (by omega) (by omega)) (by rw [rangeSize_nat]; omega) F3 N3 ⟨.nil, by simp⟩ (by simp) ⟨RunsTo.start _ _, by simp⟩ ?_ ?_
    · intro c b ti u I h tk o' hi hI hFc hPc F7 N7
      clear F3 N3
      have hb : (0 : Int) + (b : Int) * 1 = (b : Int) := by omega
      rw [hb] at F7
      clear hb
      k_steps
      unfold Hold6
      rename_i h8 tk8 tb ub vb rg2 F8 N8 k8
      clear k8
      have hnR : ∀ p ∈ news, p.1 ≠ R := fun p hp => Nat.ne_of_lt (lR p hp)
      have hRI : R ≠ I := hI _ (.head _)
      refine gen_range (σ := RS) (n := l.length - 1 - b) (fun c => (I, o') :: (R, listOf c.its c.n) :: (c.tups ++ news)) (fun _ => []) (fun c => Trips c.tups c.its.toList c.xs ∧ ∀ p ∈ c.tups, p.1 ≠ R ∧ p.1 ≠ I) ["size"] (fun j c => RunsTo (fun x => l.getD x 0) l.length b (b + 2 + j) c.xs ∧ c.its.size ≤ b * 9 + j) c
        rfl rg2 (small_one (by omega) (by omega) (by omega) (by omega)) (by rw [rangeSize_nat]; omega) F8 N8 ⟨hFc.1, fun p hp => ⟨hFc.2 p hp, hI p (.tail _ (List.mem_append_left _ hp))⟩⟩ (by simp) ⟨hPc.1.down, by omega⟩ ?_ ?_
      · intro c2 j tj u2 I2 h9 tk9 o2 hj hI2 hF2 hPj F9 N9
        clear F8 N8
        obtain ⟨e, he⟩ : ∃ e, e = b + 2 + j := ⟨_, rfl⟩
        have he2 : (b : Int) + 2 + (j : Int) * 1 = (e : Int) := by omega
        rw [he2] at F9
        rw [← he] at hPj
        clear he2
        k_steps
        unfold Hold6
        rename Fr g' L' _ _ => F10
        rename News g' L' _ _ => N10
        with_unfolding_all refine' ksw_while (σ := Nat × Tok) (fun _ => (I2, o2) :: (I, o') :: (R, listOf c2.its c2.n) :: (c2.tups ++ news)) (fun c => [(Str.ofString "size", Value.int (c.1 : Nat) c.2)]) (fun _ => True) [Str.ofString "size"] (fun c => 1 ≤ c.1 ∧ b + c.1 ≤ e ∧ ∀ d, 1 ≤ d → d < c.1 → CutL l b e d ≠ CutR' l b e d) (fun c => e - c.1) (1, tk9) F10 N10 trivial ?w1 ?w2 ?w3
        case w1 => exact List.forall_mem_cons.mpr ⟨rfl, List.forall_mem_nil _⟩
        case w2 => exact ⟨Nat.le_refl _, by omega, fun d h1 h2 => absurd h1 (by omega)⟩
        rintro ⟨sz, tsz⟩ u3 h11 tk11 hTr hP3 F11 N11
        clear F10 N10
        revert hl B F X N T0 hk hdp hun hret FG' B' X' T' hnR hRI hI2 hF2 hPj hj he hP3 F11 N11
        dsimp only
        rename_i hw
        exact H.out b ti u I h tk o' c2 j tj u2 I2 h9 tk9 o2 e hw sz tsz u3 h11 tk11
      · intro c2 u2 h9 tk9 hF2 hPj F9 N9
        clear F8 N8
        k_steps
        unfold Hold6
        rename Fr g' L' _ _ => F10
        rename News g' L' _ _ => N10
        show GenEnd _ _ _ _ _ _ _
        refine gen_end c2 F10 N10 (.head _) (fun p hp => .tail _ hp) (fun p hp => ?_) ⟨hF2.1, fun p hp => (hF2.2 p hp).1⟩ (List.forall_mem_nil _) ?_ ⟨?_, ?_⟩
        · rcases List.mem_cons.mp hp with rfl | hp
          · exact hRI
          · rcases List.mem_append.mp hp with hp | hp
            · exact (hF2.2 p hp).2
            · exact hI p (.tail _ (List.mem_append_right _ hp))
        · intro z h1 h2 h3
          have hz1 : z ≠ Str.ofString "end" := by intro e; subst e; revert h3; decide
          have hz2 : z ≠ Str.ofString "size" := by intro e; subst e; revert h3; decide
          simp [kstB, h1, hz1, hz2, h3]
        · have hy := hPj.1
          rw [show b + 2 + (l.length - 1 - b) = l.length + 1 by omega] at hy
          exact hy.up
        · have := hPj.2
          omega
    · intro c u h tk hFc hPc F7 N7
      clear F3 N3
      k_steps
      refine hret _ _ _ _ (by k_asm) (by k_asm) ⟨R, c.its, c.n, c.tups, c.xs, rfl, rfl, hFc.1, hPc.1, by have := hPc.2; omega⟩
@[irreducible] noncomputable def ec : Nat × Tok × (Str → Option Value) × Addr × Heap × Nat × Obj × RS × Nat × Tok × (Str → Option Value) × Addr × Heap × Nat × Obj × Nat × Heap × Nat × Tok × (Str → Option Value) × Heap × Nat := worst (0, 0, (fun _ => none), 0, hp0, 0, default, ⟨#[], 0, [], []⟩, 0, 0, (fun _ => none), 0, hp0, 0, default, 0, hp0, 0, 0, (fun _ => none), hp0, 0) fun e => sb.1 e.1 e.2.1 e.2.2.1 e.2.2.2.1 e.2.2.2.2.1 e.2.2.2.2.2.1 e.2.2.2.2.2.2.1 e.2.2.2.2.2.2.2.1 e.2.2.2.2.2.2.2.2.1 e.2.2.2.2.2.2.2.2.2.1 e.2.2.2.2.2.2.2.2.2.2.1 e.2.2.2.2.2.2.2.2.2.2.2.1 e.2.2.2.2.2.2.2.2.2.2.2.2.1 e.2.2.2.2.2.2.2.2.2.2.2.2.2.1 e.2.2.2.2.2.2.2.2.2.2.2.2.2.2.1 e.2.2.2.2.2.2.2.2.2.2.2.2.2.2.2.1 e.2.2.2.2.2.2.2.2.2.2.2.2.2.2.2.2.1 e.2.2.2.2.2.2.2.2.2.2.2.2.2.2.2.2.2.1 e.2.2.2.2.2.2.2.2.2.2.2.2.2.2.2.2.2.2.1 e.2.2.2.2.2.2.2.2.2.2.2.2.2.2.2.2.2.2.2.1 e.2.2.2.2.2.2.2.2.2.2.2.2.2.2.2.2.2.2.2.2.1 e.2.2.2.2.2.2.2.2.2.2.2.2.2.2.2.2.2.2.2.2.2
@[irreducible] noncomputable def b : Nat := ec.1
@[irreducible] noncomputable def ti : Tok := ec.2.1
@[irreducible] noncomputable def u : Str → Option Value := ec.2.2.1
@[irreducible] noncomputable def I : Addr := ec.2.2.2.1
@[irreducible] noncomputable def bh : Heap := ec.2.2.2.2.1
@[irreducible] noncomputable def btk : Nat := ec.2.2.2.2.2.1
@[irreducible] noncomputable def o' : Obj := ec.2.2.2.2.2.2.1
@[irreducible] noncomputable def c2 : RS := ec.2.2.2.2.2.2.2.1
@[irreducible] noncomputable def j : Nat := ec.2.2.2.2.2.2.2.2.1
@[irreducible] noncomputable def tj : Tok := ec.2.2.2.2.2.2.2.2.2.1
@[irreducible] noncomputable def u2 : Str → Option Value := ec.2.2.2.2.2.2.2.2.2.2.1
@[irreducible] noncomputable def I2 : Addr := ec.2.2.2.2.2.2.2.2.2.2.2.1
@[irreducible] noncomputable def h9 : Heap := ec.2.2.2.2.2.2.2.2.2.2.2.2.1
@[irreducible] noncomputable def tk9 : Nat := ec.2.2.2.2.2.2.2.2.2.2.2.2.2.1
@[irreducible] noncomputable def o2 : Obj := ec.2.2.2.2.2.2.2.2.2.2.2.2.2.2.1
@[irreducible] noncomputable def e : Nat := ec.2.2.2.2.2.2.2.2.2.2.2.2.2.2.2.1
@[irreducible] noncomputable def hw : Heap := ec.2.2.2.2.2.2.2.2.2.2.2.2.2.2.2.2.1
@[irreducible] noncomputable def sz : Nat := ec.2.2.2.2.2.2.2.2.2.2.2.2.2.2.2.2.2.1
@[irreducible] noncomputable def tsz : Tok := ec.2.2.2.2.2.2.2.2.2.2.2.2.2.2.2.2.2.2.1
@[irreducible] noncomputable def u3 : Str → Option Value := ec.2.2.2.2.2.2.2.2.2.2.2.2.2.2.2.2.2.2.2.1
@[irreducible] noncomputable def h11 : Heap := ec.2.2.2.2.2.2.2.2.2.2.2.2.2.2.2.2.2.2.2.2.1
@[irreducible] noncomputable def tk11 : Nat := ec.2.2.2.2.2.2.2.2.2.2.2.2.2.2.2.2.2.2.2.2.2
set_option maxHeartbeats 16000000 in
theorem sc : sb.1 b ti u I bh btk o' c2 j tj u2 I2 h9 tk9 o2 e hw sz tsz u3 h11 tk11 := by
  unfold sb
  dsimp only
  intro hl B F X N T0 hk hdp hun hret FG' B' X' T' hnR hRI hj hI2 hF2 hPj he hP3 F11 N11
  obtain ⟨hs1, hs2, hs3⟩ := hP3

  have hen : e ≤ l.length := by omega
  cases hr : (l.drop (b + sz)).take (e - (b + sz)) != (l.drop b).take (e - sz - b) with
  | true =>
    have hne : CutL l b e sz ≠ CutR' l b e sz := bne_iff_ne.mp hr
    have hlt : b + sz < e := by
      refine Nat.lt_of_le_of_ne hs2 fun c => hne ((cuts_eq hs2 hen).mpr fun x h1 h2 => ?_)
      omega
    k_steps
    refine ksw_end (sz + 1, _) (by k_asm) (by k_asm) (fun _ h => h) trivial (List.forall_mem_cons.mpr ⟨rfl, List.forall_mem_nil _⟩) ?_ ?_ ?_
    · intro z h2 h3
      have hz : z ≠ Str.ofString "size" := h2 _ (.head _)
      simp only [kstB, if_neg hz, h3, Bool.false_eq_true, if_false]
    · refine ⟨by show 1 ≤ sz + 1; omega, by show b + (sz + 1) ≤ e; omega, fun d h1 h2 => ?_⟩
      by_cases hd : d = sz
      · rw [hd]; exact hne
      · exact hs3 d h1 (by have : d < sz + 1 := h2; omega)
    · show e - (sz + 1) < e - sz
      omega
  | false =>
    have heq : CutL l b e sz = CutR' l b e sz := by simpa [CutL, CutR'] using hr
    have hlp : LeastP (fun x => l.getD x 0) b e sz := ⟨hs1, (cuts_eq hs2 hen).mp heq, fun d h1 h2 => by
      refine Classical.byContradiction fun c => hs3 d h1 h2 ((cuts_eq (by omega) hen).mpr fun x a1 a2 => Classical.byContradiction fun c2 => c ⟨x, a1, a2, c2⟩)⟩
    clear hs3 heq
    k_steps
    all_goals
      unfold Hold6
      rename Fr g' L' _ _ => F20
      rename News g' L' _ _ => N20
    all_goals try (
         show GenEnd _ _ _ _ _ _ _
         refine gen_end c2 F20 N20 (.head _) (fun p hp => .tail _ hp) (fun p hp => hI2 p hp) hF2 (List.forall_mem_nil _) ?_ ⟨?_, ?_⟩
         · intro z h1 h2 h3
           have hz : z ≠ Str.ofString "size" := by intro e; subst e; revert h3; decide
           simp [kstB, h1, hz, h3]
         · have hy := hPj.1.no hlp hen (fun ⟨g1, g2, g3⟩ => by (try dsimp only at g2 g3); omega)
           rw [show e + 1 = b + 2 + (j + 1) by omega] at hy
           exact hy
         · have := hPj.2
           omega)
    all_goals (
         rename_i T hT0 l20
         have l21 := allLt_off l20.2.2.2
         k_dflt refine append_K (s := ⟨_, _, _, _, _⟩) F20 N20 (.tail (Nat.ne_of_gt l20.2.2.1) (.tail (Ne.symm (hI2 _ (.tail _ (.head _)))) (.tail (Ne.symm hRI) (.head (fun p hp => ?_))))) ?_ (by have := hPj.2; rw [sizeLine_eq]; omega)
         · rcases List.mem_append.mp hp with hp | hp
           · exact (hF2.2 p hp).1
           · exact hnR p hp
         intro h21 F21 N21
         clear F20 N20
         k_steps
         unfold Hold6
         rename Fr g' L' _ _ => F22
         rename News g' L' _ _ => N22
         show GenEnd _ _ _ _ _ _ _
         refine gen_end (⟨c2.its.push (.ref T), c2.n + 1, (T, tup3 (b, e, sz) ti tj tsz) :: c2.tups, c2.xs ++ [(b, e, sz)]⟩ : RS) F22 N22 (.tail _ (.head _)) (fun p hp => ?_) (fun p hp => ?_) ⟨?_, fun p hp => ?_⟩ (List.forall_mem_nil _) ?_ ⟨?_, ?_⟩
         · simp only [List.mem_cons, List.mem_append] at hp ⊢
           grind
         · rcases List.mem_cons.mp hp with rfl | hp
           · exact hI2 _ (.head _)
           · rcases List.mem_cons.mp hp with rfl | hp
             · exact hI2 (R, listOf c2.its c2.n) (.tail _ (.head _))
             · rcases List.mem_append.mp hp with hp | hp
               · rcases List.mem_cons.mp hp with rfl | hp
                 · exact Nat.ne_of_gt l20.1
                 · exact hI2 _ (.tail _ (.tail _ (List.mem_append_left _ hp)))
               · exact hI2 _ (.tail _ (.tail _ (List.mem_append_right _ hp)))
         · show Trips _ (Array.push _ _).toList _
           rw [Array.toList_push]
           exact (hF2.1.mono fun p hp => .tail _ hp).append (.cons ⟨_, _, _, _, rfl, .head _⟩ .nil)
         · rcases List.mem_cons.mp hp with rfl | hp
           · exact ⟨Nat.ne_of_gt l20.2.2.1, Nat.ne_of_gt l20.2.1⟩
           · exact hF2.2 p hp
         · intro z h1 h2 h3
           have hz : z ≠ Str.ofString "size" := by intro e; subst e; revert h3; decide
           simp [kstB, h1, hz, h3]
         · have hy := hPj.1.yes hlp hen ⟨by omega, by (try dsimp only); omega, by (try dsimp only); omega⟩
           rw [show e + 1 = b + 2 + (j + 1) by omega] at hy
           exact hy
         · show (Array.push _ _).size ≤ _
           rw [Array.size_push]
           have := hPj.2
           omega)
end RN
theorem runs_claim (w : World) (news : List (Addr × Obj)) (l : List Nat) (hl : l.length ≤ 9) (t : Tok) :
    Claim w 187 8 news [.str (S l) t] (fun v news' => ∃ R its n tups xs, v = .ref R ∧ news' = (R, listOf its n) :: (tups ++ news) ∧ Trips tups its.toList xs ∧ RunsTo (fun x => l.getD x 0) l.length l.length 0 xs ∧ its.size ≤ 81) :=
  claim_of fun c => of_worst (P := fun e : RunsArg => RunsP e.1.1 e.1.2.1 e.1.2.2.1 e.1.2.2.2 e.2) (c := RN.ea) (by with_unfolding_all rfl) (by
    with_unfolding_all exact RN.sa.2 (.mk fun a0 a1 a2 a3 a4 a5 a6 a7 a8 a9 => of_worst (P := fun e => RN.sa.1 e.1 e.2.1 e.2.2.1 e.2.2.2.1 e.2.2.2.2.1 e.2.2.2.2.2.1 e.2.2.2.2.2.2.1 e.2.2.2.2.2.2.2.1 e.2.2.2.2.2.2.2.2.1 e.2.2.2.2.2.2.2.2.2) (c := RN.eb) (by with_unfolding_all rfl) (by
      with_unfolding_all exact RN.sb.2 (.mk fun b0 b1 b2 b3 b4 b5 b6 b7 b8 b9 b10 b11 b12 b13 b14 b15 b16 b17 b18 b19 b20 b21 => of_worst (P := fun e => RN.sb.1 e.1 e.2.1 e.2.2.1 e.2.2.2.1 e.2.2.2.2.1 e.2.2.2.2.2.1 e.2.2.2.2.2.2.1 e.2.2.2.2.2.2.2.1 e.2.2.2.2.2.2.2.2.1 e.2.2.2.2.2.2.2.2.2.1 e.2.2.2.2.2.2.2.2.2.2.1 e.2.2.2.2.2.2.2.2.2.2.2.1 e.2.2.2.2.2.2.2.2.2.2.2.2.1 e.2.2.2.2.2.2.2.2.2.2.2.2.2.1 e.2.2.2.2.2.2.2.2.2.2.2.2.2.2.1 e.2.2.2.2.2.2.2.2.2.2.2.2.2.2.2.1 e.2.2.2.2.2.2.2.2.2.2.2.2.2.2.2.2.1 e.2.2.2.2.2.2.2.2.2.2.2.2.2.2.2.2.2.1 e.2.2.2.2.2.2.2.2.2.2.2.2.2.2.2.2.2.2.1 e.2.2.2.2.2.2.2.2.2.2.2.2.2.2.2.2.2.2.2.1 e.2.2.2.2.2.2.2.2.2.2.2.2.2.2.2.2.2.2.2.2.1 e.2.2.2.2.2.2.2.2.2.2.2.2.2.2.2.2.2.2.2.2.2) (c := RN.ec) (by with_unfolding_all rfl) (by with_unfolding_all exact RN.sc) (b0, b1, b2, b3, b4, b5, b6, b7, b8, b9, b10, b11, b12, b13, b14, b15, b16, b17, b18, b19, b20, b21))) (a0, a1, a2, a3, a4, a5, a6, a7, a8, a9))) ((w, news, l, t), c) hl
end Mine
end

section
open PySem PySem.W PyProof.Rows
set_option maxRecDepth 100000
namespace Mine
def tripD (x : Nat × Nat × Nat) : PyData := .tuple [.int (x.1 : Nat), .int (x.2.1 : Nat), .int (x.2.2 : Nat)]
theorem tripD_eqv (x y : Nat × Nat × Nat) : PyData.eqv (tripD x) (tripD y) = decide (x = y) := by
  obtain ⟨a, b, c⟩ := x
  obtain ⟨d, e, f⟩ := y
  simp only [tripD, PyData.eqv, PyData.eqvAll, Bool.and_true]
  by_cases h1 : a = d <;> by_cases h2 : b = e <;> by_cases h3 : c = f <;> simp [h1, h2, h3] <;> omega
theorem tripD_lay (x : Nat × Nat × Nat) : (tripD x).canLay0 = true := by
  simp [tripD, PyData.canLay0, PyData.canLayAll0]
theorem tripD_depth (x : Nat × Nat × Nat) : (tripD x).depth = 1 := by
  simp [tripD, PyData.depth, PyData.depthAll]
theorem trips_lay : ∀ xs : List (Nat × Nat × Nat), PyData.canLayAll0 (xs.map tripD) = true
  | [] => rfl
  | x :: r => by rw [List.map_cons, PyData.canLayAll0, tripD_lay, trips_lay r]; rfl
theorem trips_depth : ∀ xs : List (Nat × Nat × Nat), PyData.depthAll (xs.map tripD) ≤ 1
  | [] => Nat.zero_le _
  | x :: r => by rw [List.map_cons, PyData.depthAll, tripD_depth]; have := trips_depth r; omega
theorem trips_eqv : ∀ xs ys : List (Nat × Nat × Nat), PyData.eqvAll (xs.map tripD) (ys.map tripD) = decide (xs = ys)
  | [], [] => by simp [PyData.eqvAll]
  | [], _ :: _ => by simp [PyData.eqvAll]
  | _ :: _, [] => by simp [PyData.eqvAll]
  | a :: r, b :: t => by
    simp only [List.map_cons, PyData.eqvAll, tripD_eqv, trips_eqv r t]
    by_cases h : a = b <;> by_cases h' : r = t <;> simp [h, h']
theorem trips_any (xs : List (Nat × Nat × Nat)) (x : Nat × Nat × Nat) : ((xs.map tripD).any fun y => PyData.eqv y (tripD x)) = xs.contains x := by
  rw [List.any_map]
  induction xs with
  | nil => rfl
  | cons a r ih =>
    rw [List.any_cons, List.contains_cons, ih]
    congr 1
    show PyData.eqv (tripD a) (tripD x) = _
    rw [tripD_eqv]
    by_cases h : a = x
    · simp [h]
    · have : ¬ x = a := fun e => h e.symm
      simp [h, this]
section
variable {prog : Program} {w : World} {A : Around} {E : Value → Shared → Prop} {s : Shared} {h₀ h : Heap} {L : Addr} {news : List (Addr × Obj)}
theorem IsTrip.reads {v : Value} {x : Nat × Nat × Nat} (N : News h₀ L h news) (hx : IsTrip news v x) : Reads h v (tripD x) [] := by
  obtain ⟨T, t1, t2, t3, rfl, hm⟩ := hx
  exact reads_tuple_at (N _ hm).1 rfl rfl (readsAll_cons_val (.int _ _) (readsAll_cons_val (.int _ _) (readsAll_cons_val (.int _ _) .nil)))
theorem Trips.reads {vs : List Value} {xs : List (Nat × Nat × Nat)} (N : News h₀ L h news) (hv : Trips news vs xs) : ReadsAll h vs (xs.map tripD) [] := by
  induction hv with
  | nil => exact .nil
  | cons a _ ih => exact readsAll_cons_val (a.reads N) ih
theorem trips_notIn {H : Addr} {its : Array Value} {n : Nat} {v : Value} {x : Nat × Nat × Nat} {xs : List (Nat × Nat × Nat)} {r : Bool} {Q : Value → Shared → Prop} (N : News h₀ L s.heap news) (hH : (H, listOf its n) ∈ news) (hx : IsTrip news v x) (hv : Trips news its.toList xs)
    (hu : A.units + 8 < cLine) (hr : (!xs.contains x) = r) (h : Q (.bool r) s) : wpAny (model prog w) A (compareOp .NotIn v (.ref H)) Q E s := by
  refine SeqAt.notIn_list_reads (reads_list_at (N _ hH).1 rfl rfl (hv.reads N)) (hx.reads N) (trips_lay xs) (tripD_lay x) ?_ ?_
  · rw [tripD_depth]
    have := trips_depth xs
    omega
  · rw [trips_any, hr]; exact h
theorem trips_ne {H1 H2 : Addr} {its1 its2 : Array Value} {n1 n2 : Nat} {xs ys : List (Nat × Nat × Nat)} {r : Bool} {Q : Value → Shared → Prop} (N : News h₀ L s.heap news) (hH1 : (H1, listOf its1 n1) ∈ news) (hH2 : (H2, listOf its2 n2) ∈ news)
    (hv1 : Trips news its1.toList xs) (hv2 : Trips news its2.toList ys) (hu : A.units + 64 < cLine) (hr : (!decide (xs = ys)) = r) (h : Q (.bool r) s) : wpAny (model prog w) A (compareOp .NotEq (.ref H1) (.ref H2)) Q E s := by
  refine ne_dataH (reads_list_at (N _ hH1).1 rfl rfl (hv1.reads N)) (reads_list_at (N _ hH2).1 rfl rfl (hv2.reads N)) ?_ ?_ hu ?_
  · exact Bool.and_eq_true_iff.mpr ⟨trips_lay xs, decide_eq_true (by show PyData.depthAll (xs.map tripD) + 1 ≤ 64; have := trips_depth xs; omega)⟩
  · exact Bool.and_eq_true_iff.mpr ⟨trips_lay ys, decide_eq_true (by show PyData.depthAll (ys.map tripD) + 1 ≤ 64; have := trips_depth ys; omega)⟩
  · have e : PyData.eqv (.list (xs.map tripD)) (.list (ys.map tripD)) = decide (xs = ys) := by
      rw [PyData.eqv, trips_eqv]
    rw [e, hr]; exact h
theorem head_trip {T : Addr} {o : Obj} {rest : List (Addr × Obj)} {x : Nat × Nat × Nat} (N : News h₀ L h ((T, o) :: rest)) (ho : ∃ a b c, o = tup3 x a b c) : ∃ a b c, News h₀ L h ((T, tup3 x a b c) :: rest) := by
  obtain ⟨a, b, c, rfl⟩ := ho
  exact ⟨a, b, c, N⟩
end
end Mine
end

section
open PySem PySem.W PyProof.Rows
open PySem.Builtin PySem.Builtin._codecs
set_option maxRecDepth 100000
namespace Mine
theorem fold_bytes : ∀ (l : List Nat) (acc : Array UInt8), l.foldl (fun acc y => acc ++ (asciiCodec.bytesOf y).toArray) acc = acc ++ (l.map fun c => c.toUInt8).toArray
  | [], acc => by simp
  | c :: r, acc => by
    rw [List.foldl_cons, fold_bytes r]
    show acc ++ #[c.toUInt8] ++ _ = _
    simp
theorem narrow_ok {M : Model} {A : Around} {E : Value → Shared → Prop} {s : Shared} {Q : Array UInt8 → Shared → Prop} {self : Value} (l : List Nat) (hl : 1 ≤ l.length) (hz : l.length ≤ 1000) (ha : ∀ c ∈ l, c < 128) (h : Q (l.map fun c => c.toUInt8).toArray s) :
    wpAny M A (encodeNarrow "str.encode" asciiCodec none self (S l)) Q E s := by
  obtain ⟨c, r, rfl⟩ : ∃ c r, l = c :: r := by
    cases l with
    | nil => simp at hl
    | cons c r => exact ⟨c, r, rfl⟩
  have hbad : ∀ x ∈ (c :: r), asciiCodec.bad x = false := fun x hx => by
    show decide (x ≥ 128) = false
    have := ha x hx
    exact decide_eq_false (by omega)
  have hfind : ((S (c :: r)).cps.extract 0 (S (c :: r)).cps.size).findIdx? asciiCodec.bad = none := by
    rw [Array.findIdx?_eq_none_iff]
    intro x hx
    exact hbad x (by simpa [S] using hx)
  unfold encodeNarrow
  rw [show (S (c :: r)).length = r.length + 1 from S_len _]
  simp only [Std.Legacy.Range.forIn_eq_forIn_range', Std.Legacy.Range.size]
  rw [show (r.length + 1 - 0 + 1 - 1) / 1 = r.length + 1 by simp, List.range'_succ]
  have hsz : (S (c :: r)).cps.size = r.length + 1 := S_len _
  have hex : ((S (c :: r)).cps.extract 0 (S (c :: r)).cps.size).extract 0 ((S (c :: r)).cps.extract 0 (S (c :: r)).cps.size).size = (c :: r).toArray := by
    simp [S]
  have hout : (((S (c :: r)).cps.extract 0 (S (c :: r)).cps.size).extract 0 ((S (c :: r)).cps.extract 0 (S (c :: r)).cps.size).size).foldl (fun acc y => acc ++ (asciiCodec.bytesOf y).toArray) #[] = ((c :: r).map fun c => c.toUInt8).toArray := by
    rw [hex, List.foldl_toArray, fold_bytes]
    simp
  have hcl : ((S (c :: r)).cps.extract 0 (S (c :: r)).cps.size).size = r.length + 1 := by rw [Array.size_extract, hsz]; omega
  rw [hcl] at hout
  have e0 : (S (c :: r)).cps[0]? = some c := rfl
  have en : (S (c :: r)).cps[0 + (r.length + 1)]? = none := by
    rw [Array.getElem?_eq_none]; omega
  have hne : ¬ (#[] : Array UInt8).size > sizeLine := by decide
  have hne2 : ¬ ((c :: r).map fun c => c.toUInt8).toArray.size > sizeLine := by
    rw [List.size_toArray, List.length_map, sizeLine_eq]; omega
  rw [List.forIn_cons]
  refine wpAny_bind (wpAny_bind ?_)
  rw [if_neg hne]
  refine (show wpAny _ _ (if (!asciiCodec.bad c) = true then _ else _) _ _ _ from ?_)
  rw [if_pos (by rw [hbad c (List.mem_cons_self ..)]; rfl)]
  refine wpAny_pure ?_
  rw [hfind, Option.getD_none, hcl, hout]
  cases r with
  | nil =>
    refine wpAny_pure ?_
    exact wpAny_pure h
  | cons d r =>
    rw [show (d :: r).length = r.length + 1 from rfl, List.range'_succ]
    simp only [List.forIn_cons]
    refine wpAny_bind ?_
    rw [if_neg hne2]
    rw [show (d :: r).length = r.length + 1 from rfl] at en
    rw [en]
    refine wpAny_pure (wpAny_pure ?_)
    exact wpAny_pure h
theorem road_ascii (self : Value) (x : Str) : encodeRoad "str.encode" self x (Str.ofString "ascii") none = (do mkBytes (← encodeNarrow "str.encode" asciiCodec none self x)) := by
  first | kernel_rfl | rfl | (unfold encodeRoad; rfl) | (unfold encodeRoad; simp only []; rfl) | decide
theorem enc_tree (x : Str) (t u : Tok) : Builtin.«str.encode» ⟨[.str x t, .str (Str.ofString "ascii") u], []⟩ = (do ret (← encodeRoad "str.encode" (.str x t) x (Str.ofString "ascii") none)) := by
  first | kernel_rfl | rfl | (unfold Builtin.«str.encode»; rfl)
section
variable {prog : Program} {w : World} {A : Around} {E : Value → Shared → Prop} {s : Shared} {Q : Value → Shared → Prop}
theorem encode_ok {l : List Nat} {t u : Tok} (hl : 1 ≤ l.length) (hz : l.length ≤ 1000) (ha : ∀ c ∈ l, c < 128) (h : ∀ t' k, Q (.bytes (l.map fun c => c.toUInt8).toArray t') { s with toks := k }) :
    wpAny (model prog w) A (call (.builtin "str.encode") [.str (S l) t, .str (Str.ofString "ascii") u]) Q E s := by
  have hT : s.TypeIs (.str (S l) t) "str" := typeIs_str s _ t
  refine wpAny_call_entry PySem.F.slot_str_encode hT PySem.F.entry_str_encode ?_ (PySem.F.args_str_encode_2 _ _)
  have e : Builtin.«str.encode» ⟨[.str (S l) t, .str (Str.ofString "ascii") u], []⟩ = (do ret (← (do mkBytes (← encodeNarrow "str.encode" asciiCodec none (.str (S l) t) (S l))))) := by rw [enc_tree, road_ascii]
  rw [e]
  refine wpAny_bind (wpAny_bind (narrow_ok l hl hz ha (wpAny_mkBytes (wpAny_pure ?_) (by rw [List.size_toArray, List.length_map, sizeLine_eq]; omega))))
  exact ⟨_, rfl, h _ _⟩
theorem encode_method {pl : Sem Bool} {x : PySem.Str} {t : Tok} {Q : Value × List Value → Shared → Prop} {M : Model} (h : Q (.builtin "str.encode", [.str x t]) s) : wpAny M A (getMethod (.str x t) "encode" pl) Q E s := by
  with_reducible exact GM.of (.str x t) (typeIs_str _ _ _) PySem.F.slot_str_encode PySem.F.type_str_encode GM.noRef h
theorem bInts_of {l : List Nat} (ha : ∀ c ∈ l, c < 128) : KBw.bInts (l.map fun c => c.toUInt8).toArray = l.map (fun c : Nat => (c : Int)) := by
  unfold KBw.bInts
  rw [List.map_map]
  refine List.map_congr_left fun c hc => ?_
  have := ha c hc
  show ((c.toUInt8.toNat : Nat) : Int) = (c : Int)
  rw [Nat.toUInt8, UInt8.toNat_ofNat']
  omega
end
end Mine
end

section
open PySem PySem.W PySem.W.X PyProof.Rows
set_option maxRecDepth 100000
namespace Mine
theorem enter_callC {M : Model} {A : Around} {s : Shared} {f : Value} {pos : List Value} {c : ClaimW} {cl : Str → Option Addr} {mean : ExcName → Option Value} {args : List WData} {s₁ : Shared}
    (h : codeC M A (.call f ⟨pos, []⟩) (GoodWG c cl mean args s₁) s) : wpC M A (PySem.call f pos) (fun v s' => GoodWG c cl mean args s₁ (.ok (.ret v)) s') (fun e s' => GoodWG c cl mean args s₁ (.error e) s') s :=
  wpC_call (codeC_mono h fun res s' g => by rcases g.1 with ⟨v, _, _, rfl, _⟩ | ⟨e, _, _, rfl, _⟩ <;> exact g)
/-- a machine each of whose codes ends at once with r -/
def ended (w : World) (r : Result) : Model := ⟨fun _ => match r with | .ok f => .pure (.done f) | .error e => .raise e, prog, w⟩
theorem ended_iff (w : World) (r : Result) (c : Code) (R : Result → Shared → Prop) (s : Shared) : codeAny (ended w r) callerA c R s ↔ R r s := by
  constructor
  · intro h
    have h1 := h ⟨c, none, none, [], none⟩ default rfl ⟨rfl, Nat.zero_le _, fun l hl => by cases hl; rfl, fun g hg => by cases hg; rfl, Nat.zero_le _⟩
    rw [wpCode_iff_wp] at h1
    cases r <;> exact h1
  · intro h Γ p _ _
    rw [wpCode_iff_wp]
    cases r <;> exact h
theorem kn_postC (w : World) {M : Model} {A : Around} {cd : Code} {s s₁ : Shared} {cw : ClaimW} {cl : Str → Option Addr} {mean : ExcName → Option Value} {args : List WData} {tabs : List (Addr × Addr)} (hT : TabsAt tabs s₁.heap) (hr : ∀ a x, cw.raises a x = false)
    (h : codeC M A cd (fun r s' => GoodW cw cl mean args { s₁ with heap := ghostOf s₁.heap tabs } r s' ∧ GrownAll tabs s'.heap) s) : codeC M A cd (GoodWG cw cl mean args s₁) s :=
  codeC_mono h fun r s' hh => (ended_iff w r cd _ s').mp (kn_post hT hr ((ended_iff w r cd _ s').mpr hh))
theorem call_fullC {prog : Program} {w : World} {A : Around} {R : Result → Shared → Prop} {s : Shared} {name : Str} {params : Arguments} {body : List Stmt} {scope : Scope}
    {dV kV pm cd doc : Value} {a : Addr} {o : Obj} {args : Args} {binds : List (Str × Value)}
    (hroom : A.depth < recursionLimit) (ho : s.heap.get? a = some o) (hdata : o.data = .func { Calls.docDef name params body scope pm cd doc with defaults := dV, kwdefaults := kV }) (hlim : s.heap.NoLimit) (hcd : s.heap.CodeRec cd name)
    (hbind : BindsTo s { Calls.docDef name params body scope pm cd doc with defaults := dV, kwdefaults := kV } args binds)
    (hloc : ∀ x ∈ binds, scope.names.lookup x.1 = some .local)
    (h : ∀ h₁, Fr s.heap s.heap.objs.size h₁ (fun x => binds.reverse.lookup x) →
      wpC (model prog w) (A.deeper (envOf name scope s.heap.objs.size a cd)) (execs body (envOf name scope s.heap.objs.size a cd))
        (fun f s' => R (.ok (.ret (match f with | .ret v => v | _ => .none))) s')
        (fun e s' => wpAny (model prog w) (A.deeper (envOf name scope s.heap.objs.size a cd)) (leaving (envOf name scope s.heap.objs.size a cd) e)
          (fun _ s'' => R (.error e) s'') (fun e' s'' => R (.error e') s'') s')
        { s with heap := h₁, toks := s.toks + binds.length })
    (hco : scope.isCoroutine = false := by rfl) (hgen : scope.isGenerator = false := by rfl) (hk : scope.kind = .function := by rfl)
    (hcell : ∀ x ∈ scope.names, x.2 ≠ .cell := by decide) :
    codeC (model prog w) A (.call (.ref a) args) R s :=
  codeC_call_def hroom ho hdata hlim hcd rfl hbind hcell hloc (fun h₁ hns hkeep => h h₁ ⟨hns, hkeep, Nat.le_refl _⟩) hco hgen hk
theorem foldC {α : Type} {M : Model} {A : Around} {t : Sem α} {Q : α → Shared → Prop} {E : Value → Shared → Prop} {s : Shared} (h : ∀ Q' : α → Shared → Prop, (∀ a s', Q a s' → Q' a s') → wpC M A t Q' (fun _ _ => False) s) : wpC M A t Q E s :=
  wpC_mono (h Q fun _ _ x => x) (fun _ _ x => x) fun _ _ x => x.elim
theorem goesOn_at (w : World) (news : List (Addr × Obj)) (b : Array UInt8) (l : List Int) (hb : KBw.bInts b = l) (hl : l.length ≤ 9) (size e : Nat) (e' : Int) (he : e' = (e : Int)) (hse : size ≤ e) (hel : e ≤ l.length) (t1 t2 t3 : Tok) :
    Claim w 180 4 news [.bytes b t1, .int size t2, .int e' t3] (fun v news' => news' = news ∧ ∃ r t, v = .int (r : Nat) t ∧ GoneOn l size e r) := by
  subst he
  exact goesOn_claim w news b l hb hl size e hse hel t1 t2 t3
end Mine
end

section
open PySem PySem.W PyProof.Rows
set_option maxRecDepth 100000
namespace Mine
theorem esc3_code : esc3 = escCode := by
  funext c
  rfl
/-- the sizes of the words that begin at p, by the one order and by the other -/
def wA (l : List Nat) (p : Nat) : Nat := wordEnd (ltOf id l) l.length (l.length - 1 - p) - p
def wB (l : List Nat) (p : Nat) : Nat := wordEnd (ltOf (fun x => x.flatMap escCode) l) l.length (l.length - 1 - p) - p
abbrev fT (l : List Nat) : Nat → Nat := fun x => l.getD x 0
abbrev rT (l : List Nat) : Nat → Nat := fun x => (l.map rank).getD x 0
theorem fT_ends {l : List Nat} (hs : Signs l) : Ends (fT l) l.length := ends_of l hs.pos
theorem rT_ends (l : List Nat) : Ends (rT l) l.length := by
  have := ends_of (l.map rank) (rank_pos l)
  rwa [List.length_map] at this
theorem Signs.drop {l : List Nat} (h : Signs l) (p : Nat) : Signs (l.drop p) := fun c hc => h c (List.mem_of_mem_drop hc)
theorem ltA {l : List Nat} (hs : Signs l) (p q : Nat) : ltOf id l p q = true ↔ Less (fT l) p q := by
  unfold ltOf
  rw [decide_eq_true_iff]
  exact lex_less l hs.pos p q
theorem ltB' {l : List Nat} (hs : Signs l) (p q : Nat) : ltOf (fun x => x.flatMap escCode) l p q = true ↔ Less (rT l) p q := by
  unfold ltOf
  rw [decide_eq_true_iff, ← esc3_code, esc_lt _ _ (hs.drop p) (hs.drop q), List.map_drop, List.map_drop]
  exact lex_less (l.map rank) (rank_pos l) p q
theorem word_A {l : List Nat} (hs : Signs l) {p : Nat} (hp : p < l.length) : Word (fT l) l.length p (p + wA l p) := by
  have h := wordEnd_word (fT_ends hs) (lt := ltOf id l) (fun p q _ _ _ => ltA hs p q) (i := l.length - 1 - p) (by omega)
  rw [show l.length - 1 - (l.length - 1 - p) = p by omega] at h
  have := h.lt
  unfold wA
  rw [show p + (wordEnd (ltOf id l) l.length (l.length - 1 - p) - p) = wordEnd (ltOf id l) l.length (l.length - 1 - p) by omega]
  exact h
theorem word_B {l : List Nat} (hs : Signs l) {p : Nat} (hp : p < l.length) : Word (rT l) l.length p (p + wB l p) := by
  have h := wordEnd_word (rT_ends l) (lt := ltOf (fun x => x.flatMap escCode) l) (fun p q _ _ _ => ltB' hs p q) (i := l.length - 1 - p) (by omega)
  rw [show l.length - 1 - (l.length - 1 - p) = p by omega] at h
  have := h.lt
  unfold wB
  rw [show p + (wordEnd (ltOf (fun x => x.flatMap escCode) l) l.length (l.length - 1 - p) - p) = wordEnd (ltOf (fun x => x.flatMap escCode) l) l.length (l.length - 1 - p) by omega]
  exact h
theorem alike_iff {l : List Nat} {p : Nat} (hp : p < l.length) : l.drop p = List.replicate (l.length - p) (l.getD p 0) ↔ Alike (fT l) l.length p := by
  constructor
  · intro h x h1 h2
    have h3 := congrArg (fun z : List Nat => z.getD (x - p) 0) h
    simp only [List.getD_eq_getElem?_getD, List.getElem?_drop, List.getElem?_replicate] at h3 ⊢
    rw [show p + (x - p) = x by omega, if_pos (by omega)] at h3
    exact h3
  · intro h
    apply List.ext_getElem?
    intro i
    rw [List.getElem?_drop, List.getElem?_replicate]
    by_cases hi : i < l.length - p
    · rw [if_pos hi]
      have h3 := h (p + i) (by omega) (by omega)
      have hb : p + i < l.length := by omega
      simp only [List.getD_eq_getElem?_getD] at h3
      rw [List.getElem?_eq_getElem hb] at h3 ⊢
      simp only [Option.getD_some] at h3
      rw [h3, List.getD_eq_getElem?_getD]
    · rw [if_neg hi, List.getElem?_eq_none (by omega)]
/-- of the two sizes at a place one is 1; the other is 1 iff the rest is all alike -/
theorem sizes_pq {l : List Nat} (hs : Signs l) {p : Nat} (hp : p < l.length) : ∃ (q : Nat) (al : Bool), 1 ≤ q ∧ p + q ≤ l.length ∧ ((wA l p = 1 ∧ wB l p = q) ∨ (wA l p = q ∧ wB l p = 1)) ∧ (decide (q = 1)) = al ∧ (l.drop p == List.replicate (l.length - p) (l.getD p 0)) = al := by
  have a := word_A hs hp
  have b := word_B hs hp
  have al := a.le
  have bl := b.le
  rcases sizes_at (opp_rank hs) (fT_ends hs) (rT_ends l) hp a b with ⟨h, h1, h2⟩ | ⟨h, ⟨h1, h2⟩ | ⟨h1, h2⟩⟩
  · exact ⟨1, true, Nat.le_refl _, by omega, .inl ⟨by omega, by omega⟩, by decide, beq_iff_eq.mpr ((alike_iff hp).mpr h)⟩
  · refine ⟨wB l p, false, by omega, bl, .inl ⟨by omega, rfl⟩, decide_eq_false (by omega), ?_⟩
    exact beq_eq_false_iff_ne.mpr fun e => h ((alike_iff hp).mp e)
  · refine ⟨wA l p, false, by omega, al, .inr ⟨rfl, by omega⟩, decide_eq_false (by omega), ?_⟩
    exact beq_eq_false_iff_ne.mpr fun e => h ((alike_iff hp).mp e)
/-- what a place tells -/
def Told (l : List Nat) (p : Nat) (x : Nat × Nat × Nat) : Prop := (x.2.2 = wA l p ∨ x.2.2 = wB l p) ∧ Tells (fT l) l.length p x.2.2 x.1 x.2.1
theorem told_run {l : List Nat} (hs : Signs l) (x : Nat × Nat × Nat) : IsRun (fT l) l.length x.1 x.2.1 x.2.2 ↔ ∃ p, p < l.length ∧ Told l p x :=
  told_iff (opp_rank hs) (fT_ends hs) (rT_ends l) (fun _ hp => word_A hs hp) (fun _ hp => word_B hs hp) _ _ _
theorem Tells.unique {f : Nat → Nat} {n p s b e b' e' : Nat} (h : Tells f n p s b e) (h' : Tells f n p s b' e') : b = b' ∧ e = e' := ⟨h.2.1.unique h'.2.1, h.1.unique h'.1⟩
theorem told_once {l : List Nat} (hs : Signs l) {p : Nat} (hp : p < l.length) {x y : Nat × Nat × Nat} (hx : Told l p x) (hy : Told l p y) : x = y := by
  have key : x.2.2 = y.2.2 := by
    obtain ⟨h1, h2⟩ := hx
    obtain ⟨h3, h4⟩ := hy
    have once : ∀ {b1 e1 b2 e2}, Tells (fT l) l.length p (wA l p) b1 e1 → Tells (fT l) l.length p (wB l p) b2 e2 → wA l p = wB l p := fun a b => tells_once (opp_rank hs) (fT_ends hs) (rT_ends l) hp (word_A hs hp) (word_B hs hp) a b
    rcases h1 with h1 | h1 <;> rcases h3 with h3 | h3
    · rw [h1, h3]
    · rw [h1] at h2; rw [h3] at h4; rw [h1, h3]; exact once h2 h4
    · rw [h1] at h2; rw [h3] at h4; rw [h1, h3]; exact (once h4 h2).symm
    · rw [h1, h3]
  obtain ⟨x1, x2, x3⟩ := x
  obtain ⟨y1, y2, y3⟩ := y
  simp only at key
  subst key
  obtain ⟨e1, e2⟩ := hx.2.unique hy.2
  simp only at e1 e2
  rw [e1, e2]
/-- the two lists of runs are one -/
theorem runs_same {l : List Nat} (hs : Signs l) {xs ys : List (Nat × Nat × Nat)} (hx : xs.Pairwise RunLt) (hm : ∀ x, x ∈ xs ↔ ∃ p, p < l.length ∧ Told l p x) (hy : RunsTo (fT l) l.length l.length 0 ys) : xs = ys := by
  refine sorted_eq RunLt.irrefl RunLt.asymm hx hy.1 fun x => ?_
  rw [hm, hy.2]
  constructor
  · intro h
    refine ⟨(told_run hs x).mpr h, .inl ?_⟩
    have r := (told_run hs x).mpr h
    have := r.len
    have := r.pos
    have := r.le
    omega
  · intro h
    exact (told_run hs x).mp h.1
/-- the octets of the text, as ints -/
abbrev oct (l : List Nat) : List Int := l.map (fun c : Nat => (c : Int))
theorem oct_getD (l : List Nat) (x : Nat) : (oct l).getD x 0 = ((l.getD x 0 : Nat) : Int) := by
  rw [List.getD_eq_getElem?_getD, List.getD_eq_getElem?_getD, List.getElem?_map]
  cases l[x]? <;> rfl
theorem oct_rev_getD (l : List Nat) {x : Nat} (h : x < l.length) : (oct l).reverse.getD x 0 = ((l.getD (l.length - 1 - x) 0 : Nat) : Int) := by
  rw [getD_reverse (oct l) 0 (by rw [List.length_map]; exact h), List.length_map, oct_getD]
theorem goes_of {l : List Nat} {s e r : Nat} (h : GoneOn (oct l) s e r) : Goes (fT l) l.length s e r := by
  obtain ⟨h1, h2, h3, h4⟩ := h
  rw [List.length_map] at h2 h4
  refine ⟨h1, h2, fun x a c => ?_, fun a c => ?_⟩
  · have := h3 x a c
    rw [oct_getD, oct_getD] at this
    exact Int.ofNat_inj.mp this
  · refine h4 a ?_
    rw [oct_getD, oct_getD]
    exact congrArg _ c
theorem back_of {l : List Nat} {s p r : Nat} (hp : p + s ≤ l.length) (hs : 1 ≤ s) (h : GoneOn (oct l).reverse s (l.length - p) r) : Back (fT l) s p (l.length - r) ∧ r ≤ l.length := by
  obtain ⟨h1, h2, h3, h4⟩ := h
  rw [List.length_reverse, List.length_map] at h2 h4
  refine ⟨back_of_goes (g := fun x => l.getD (l.length - 1 - x) 0) (fun x _ => rfl) hp hs ⟨h1, h2, fun x a c => ?_, fun a c => ?_⟩, h2⟩
  · have := h3 x a c
    rw [oct_rev_getD l (by omega), oct_rev_getD l (by omega)] at this
    exact Int.ofNat_inj.mp this
  · refine h4 a ?_
    rw [oct_rev_getD l a, oct_rev_getD l (by omega)]
    exact congrArg _ c
/-- what is found at a place after j of its sizes -/
def Here (l : List Nat) (p q j : Nat) (xs : List (Nat × Nat × Nat)) : Prop :=
  xs.length ≤ 1 ∧ ∀ x, x ∈ xs ↔ ∃ i, i < j ∧ x.2.2 = (if i = 0 then 1 else q) ∧ Tells (fT l) l.length p x.2.2 x.1 x.2.1
theorem Here.start (l : List Nat) (p q : Nat) : Here l p q 0 [] := ⟨Nat.zero_le _, fun x => by simp⟩
theorem Here.no {l : List Nat} {p q j b e s : Nat} {xs : List (Nat × Nat × Nat)} (h : Here l p q j xs) (hs : s = (if j = 0 then 1 else q)) (hg : Goes (fT l) l.length s (p + s) e) (hb : Back (fT l) s p b) (hno : ¬ (b < p ∧ b + 2 * s ≤ e ∧ (b, e, s) ∉ xs)) : Here l p q (j + 1) xs := by
  refine ⟨h.1, fun x => ?_⟩
  rw [h.2]
  constructor
  · rintro ⟨i, h1, h2⟩
    exact ⟨i, by omega, h2⟩
  · rintro ⟨i, h1, h2, h3⟩
    rcases Nat.lt_or_ge i j with c | c
    · exact ⟨i, c, h2, h3⟩
    · have : i = j := by omega
      subst this
      obtain ⟨x1, x2, x3⟩ := x
      simp only at h2 h3
      rw [← hs] at h2
      subst h2
      have e1 : x1 = b := h3.2.1.unique hb
      have e2 : x2 = e := h3.1.unique hg
      subst e1 e2
      have hin : (x1, x2, x3) ∈ xs := Classical.byContradiction fun c => hno ⟨h3.2.2.1, h3.2.2.2, c⟩
      exact (h.2 _).mp hin
theorem Here.yes {l : List Nat} (hl : Signs l) {p q j b e s : Nat} {xs : List (Nat × Nat × Nat)} (hp : p < l.length) (hpq : (wA l p = 1 ∧ wB l p = q) ∨ (wA l p = q ∧ wB l p = 1)) (h : Here l p q j xs) (hs : s = (if j = 0 then 1 else q)) (hg : Goes (fT l) l.length s (p + s) e) (hb : Back (fT l) s p b)
    (h1 : b < p) (h2 : b + 2 * s ≤ e) (h3 : (b, e, s) ∉ xs) : xs = [] ∧ Here l p q (j + 1) [(b, e, s)] := by
  have told : ∀ x i, x.2.2 = (if i = 0 then 1 else q) → Tells (fT l) l.length p x.2.2 x.1 x.2.1 → Told l p x := fun x i a c => ⟨by
    split at a <;> omega, c⟩
  have ht : Told l p (b, e, s) := told _ j hs ⟨hg, hb, h1, h2⟩
  have hnil : xs = [] := by
    cases xs with
    | nil => rfl
    | cons x r =>
      obtain ⟨i, _, a, c⟩ := (h.2 x).mp (List.mem_cons_self ..)
      have := told_once hl hp (told x i a c) ht
      exact absurd (this ▸ List.mem_cons_self ..) h3
  refine ⟨hnil, Nat.le_refl _, fun x => ?_⟩
  rw [List.mem_singleton]
  constructor
  · rintro rfl
    exact ⟨j, by omega, hs, hg, hb, h1, h2⟩
  · rintro ⟨i, a, c, d⟩
    exact told_once hl hp (told x i c d) ht
theorem Here.told {l : List Nat} {p q : Nat} {xs : List (Nat × Nat × Nat)} (hpq : (wA l p = 1 ∧ wB l p = q) ∨ (wA l p = q ∧ wB l p = 1)) (h : Here l p q 2 xs) (x : Nat × Nat × Nat) : x ∈ xs ↔ Told l p x := by
  rw [h.2]
  constructor
  · rintro ⟨i, a, c, d⟩
    exact ⟨by split at c <;> omega, d⟩
  · rintro ⟨a, d⟩
    by_cases c : x.2.2 = 1
    · exact ⟨0, by omega, by rw [c]; rfl, d⟩
    · exact ⟨1, by omega, by rw [if_neg (by decide)]; omega, d⟩
/-- what is told ahead of place i -/
def ToldTo (l : List Nat) (i : Nat) (xs : List (Nat × Nat × Nat)) : Prop := xs.Pairwise RunLt ∧ ∀ x, x ∈ xs ↔ ∃ p, p < i ∧ Told l p x
theorem ToldTo.start (l : List Nat) : ToldTo l 0 [] := ⟨.nil, fun x => by simp⟩
theorem ToldTo.none {l : List Nat} {i : Nat} {xs hs : List (Nat × Nat × Nat)} (h : ToldTo l i xs) (hh : ∀ x, x ∈ hs ↔ Told l i x) (hsub : ∀ x ∈ hs, x ∈ xs) : ToldTo l (i + 1) xs := by
  refine ⟨h.1, fun x => ?_⟩
  constructor
  · intro hx
    obtain ⟨p, a, c⟩ := (h.2 x).mp hx
    exact ⟨p, by omega, c⟩
  · rintro ⟨p, a, c⟩
    rcases Nat.lt_or_ge p i with d | d
    · exact (h.2 x).mpr ⟨p, d, c⟩
    · have : p = i := by omega
      subst this
      exact hsub x ((hh x).mpr c)
theorem ToldTo.one {l : List Nat} {i : Nat} {xs ys : List (Nat × Nat × Nat)} {x : Nat × Nat × Nat} (h : ToldTo l i xs) (hh : ∀ y, y ∈ [x] ↔ Told l i y) (hs : ys.Pairwise RunLt) (hm : ∀ y, y ∈ ys ↔ y = x ∨ y ∈ xs) : ToldTo l (i + 1) ys := by
  refine ⟨hs, fun y => ?_⟩
  rw [hm, h.2]
  constructor
  · rintro (rfl | ⟨p, a, c⟩)
    · exact ⟨i, by omega, (hh _).mp (List.mem_singleton.mpr rfl)⟩
    · exact ⟨p, by omega, c⟩
  · rintro ⟨p, a, c⟩
    rcases Nat.lt_or_ge p i with d | d
    · exact .inr ⟨p, d, c⟩
    · have : p = i := by omega
      subst this
      exact .inl (List.mem_singleton.mp ((hh _).mpr c))
section
variable {l : List Nat} {p q j sz r1 r2 : Nat} {xs : List (Nat × Nat × Nat)}
theorem leaf_no (h : Here l p q j xs) (hsz : sz = (if j = 0 then 1 else q)) (h1 : 1 ≤ sz) (h2 : p + sz ≤ l.length) (hg1 : GoneOn (oct l) sz (p + sz) r1) (hg2 : GoneOn (oct l).reverse sz (l.length - p) r2)
    (hno : ¬ ((l.length : Int) - (r2 : Int) < (p : Int) ∧ 2 * (sz : Int) ≤ (r1 : Int) - ((l.length : Int) - (r2 : Int)))) : Here l p q (j + 1) xs := by
  obtain ⟨hb, hr⟩ := back_of h2 h1 hg2
  exact h.no hsz (goes_of hg1) hb fun ⟨a, b, _⟩ => hno ⟨by omega, by omega⟩
theorem leaf_in (h : Here l p q j xs) (hsz : sz = (if j = 0 then 1 else q)) (h1 : 1 ≤ sz) (h2 : p + sz ≤ l.length) (hg1 : GoneOn (oct l) sz (p + sz) r1) (hg2 : GoneOn (oct l).reverse sz (l.length - p) r2)
    (hin : (l.length - r2, r1, sz) ∈ xs) : Here l p q (j + 1) xs := by
  obtain ⟨hb, hr⟩ := back_of h2 h1 hg2
  exact h.no hsz (goes_of hg1) hb fun ⟨_, _, c⟩ => c hin
theorem leaf_yes (hs : Signs l) (hp : p < l.length) (hpq : (wA l p = 1 ∧ wB l p = q) ∨ (wA l p = q ∧ wB l p = 1)) (h : Here l p q j xs) (hsz : sz = (if j = 0 then 1 else q)) (h1 : 1 ≤ sz) (h2 : p + sz ≤ l.length) (hg1 : GoneOn (oct l) sz (p + sz) r1) (hg2 : GoneOn (oct l).reverse sz (l.length - p) r2)
    (ha : (l.length : Int) - (r2 : Int) < (p : Int)) (hb : 2 * (sz : Int) ≤ (r1 : Int) - ((l.length : Int) - (r2 : Int))) (hin : (l.length - r2, r1, sz) ∉ xs) : xs = [] ∧ Here l p q (j + 1) [(l.length - r2, r1, sz)] := by
  obtain ⟨hb', hr⟩ := back_of h2 h1 hg2
  exact h.yes hs hp hpq hsz (goes_of hg1) hb' (by omega) (by omega) hin
theorem leaf_int (h1 : 1 ≤ sz) (h2 : p + sz ≤ l.length) (hg2 : GoneOn (oct l).reverse sz (l.length - p) r2) : (l.length : Int) - (r2 : Int) = ((l.length - r2 : Nat) : Int) := by
  obtain ⟨hb', hr⟩ := back_of h2 h1 hg2
  omega
end
end Mine
end

section
open PySem PySem.W PyProof.Rows
set_option maxRecDepth 100000
namespace Mine
section
variable {prog : Program} {w : World} {A : Around} {E : Value → Shared → Prop} {s : Shared} {h₀ : Heap} {L : Addr} {m : Str → Option Value} {news : List (Addr × Obj)}
theorem sorted_two {l : Addr} {a b : Int} {q n : Nat} {t1 t2 : Tok} {Q : Value → Shared → Prop} (F : Fr h₀ L s.heap m) (N : News h₀ L s.heap news) (hl : (l, listOf #[.int a t1, .int b t2] n) ∈ news) (hab : (a = 1 ∧ b = q) ∨ (a = q ∧ b = 1)) (hq : 1 ≤ q)
    (h : ∀ D h' u1 u2 e, Fr h₀ L h' m → News h₀ L h' ((D, listOf #[.int 1 u1, .int (q : Int) u2] e) :: news) → (∀ p ∈ news, @LT.lt Nat _ p.1 D) → Q (.ref D) { s with heap := h' }) :
    wpAny (model prog w) A (call (.builtin "sorted") [.ref l]) Q E s := by
  have hL : s.heap.IsList l ([.int a t1, .int b t2] : List Value).toArray := ⟨_, (N _ hl).1, rfl, _, rfl⟩
  refine sorted_N F N hL (.cons a t1 (.cons b t2 .nil)) (by show (2 : Nat) < 64; decide) fun h' vs' ns' e F' N' hI hp hs => ?_
  have hns : ns' = [1, (q : Int)] := by
    have hlen := hp.length_eq
    obtain ⟨x, y, rfl⟩ : ∃ x y, ns' = [x, y] := by
      match ns', hlen with
      | [x, y], _ => exact ⟨x, y, rfl⟩
    have h1 : x ≤ y := (List.pairwise_cons.mp hs).1 y (List.mem_singleton.mpr rfl)
    have hx : x = a ∨ x = b := by simpa using hp.mem_iff.mp (List.mem_cons_self ..)
    have hy : y = a ∨ y = b := by simpa using hp.mem_iff.mp (List.mem_cons_of_mem _ (List.mem_singleton.mpr rfl))
    have ha : a = x ∨ a = y := by simpa using hp.mem_iff.mpr (List.mem_cons_self ..)
    have hb : b = x ∨ b = y := by simpa using hp.mem_iff.mpr (List.mem_cons_of_mem _ (List.mem_singleton.mpr rfl))
    have e1 : x = 1 := by omega
    have e2 : y = q := by omega
    rw [e1, e2]
  subst hns
  obtain ⟨u1, u2, rfl⟩ : ∃ u1 u2, vs' = [.int 1 u1, .int (q : Int) u2] := by
    cases hI with
    | cons _ u1 r => cases r with
      | cons _ u2 r2 => cases r2 with
        | nil => exact ⟨u1, u2, rfl⟩
  exact h _ h' u1 u2 e F' N' fun p hp => Nat.lt_succ_of_lt (Heap.lt_size (N p hp).1)
theorem s_mul1 {c : Nat} {k : Int} {j : Nat} {t u : Tok} {Q : Value → Shared → Prop} (hk : k = (j : Int)) (hj : 1 ≤ j) (hz : j ≤ 100) (h : ∀ t' tk, Q (.str (S (List.replicate j c)) t') { s with toks := tk }) : wpAny (model prog w) A (binaryOp .Mult (.str (S [c]) t) (.int k u)) Q E s := by
  subst hk
  have hok : MulOk (S [c]) (j : Int) := by
    refine ⟨?_, fun _ _ hgt => ?_, fun _ _ => ?_⟩
    · rw [decide_eq_false (by omega), decide_eq_false (by omega)]; rfl
    · have h1 : (S [c]).length = 1 := rfl
      rw [h1] at hgt
      have h2 : (1 : Int) ≤ (2 ^ 63 - 1) / (j : Int) := by
        rw [Int.le_ediv_iff_mul_le (by omega)]
        omega
      omega
    · have h1 : (S [c]).length = 1 := rfl
      rw [h1]
      exact decide_eq_false (by rw [sizeLine_eq]; omega)
  refine SB.mul hok fun t' k => ?_
  have e : Txt.mul (S [c]) (j : Int) = S (List.replicate j c) := by
    have h1 := mul_one_list c (j : Int)
    rw [show ((j : Nat) : Int).toNat = j by omega] at h1
    rw [S_of (Txt.mul (S [c]) (j : Int)), show (Txt.mul (S [c]) (j : Int)).cps.toList = _ from h1]
  rw [e]
  exact h _ _
theorem s_eq {a b : List Nat} {t u : Tok} {r : Bool} {Q : Value → Shared → Prop} (hr : (a == b) = r) (h : Q (.bool r) s) : wpAny (model prog w) A (compareOp .Eq (.str (S a) t) (.str (S b) u)) Q E s := by
  refine PyProof.Rows.eq_str ?_
  have e : (S a == S b) = (a == b) := by
    by_cases h : a = b
    · subst h; simp
    · have h1 : (a == b) = false := by simp [h]
      have h2 : (S a == S b) = false := beq_eq_false_iff_ne.mpr fun e => h (by
        have h2 : (S a).cps.toList = (S b).cps.toList := by rw [e]
        rwa [S_list, S_list] at h2)
      rw [h1, h2]
  rw [e, hr]; exact h
theorem s_fromN {value slice : PySem.Expr} {l : List Nat} {i' : Int} {t ui : Tok} {Q : Value → Shared → Prop} (i : Nat) (hi : i' = (i : Int)) (hF : Fr h₀ L s.heap m) (hN : News h₀ L s.heap news) (h1 : i ≤ l.length) (hz : l.length ≤ 1000) (h : ∀ h' t' k, Fr h₀ L h' m → News h₀ L h' news → Q (.str (S (l.drop i)) t') { s with heap := h', toks := k })
    (hs : subscripted slice false (.str (S l) t) (.ref s.heap.objs.size) = operate [.ref s.heap.objs.size, .str (S l) t] (getItem (.str (S l) t) (.ref s.heap.objs.size)) := by with_unfolding_all rfl)
    (ht : ∀ r, letTemporaryGo value (.str (S l) t) r = pure () := by intro _; with_unfolding_all rfl) :
    wpAny (model prog w) A (subscriptTail value slice (.str (S l) t) (.ref s.heap.objs.size)) Q E { s with heap := s.heap.push { cls := .type "slice", data := .fields #[.int i' ui, .none, .none] } } := by
  subst hi
  refine s_from hF hN (by omega) (by omega) hz (fun h' t' k a b => ?_) hs ht
  have e1 : ((i : Nat) : Int).toNat = i := by omega
  rw [e1]
  exact h h' t' k a b
theorem ne_boolF {a b : Bool} {Q : Value → Shared → Prop} (hab : a = b) (h : Q (.bool false) s) : wpAny (model prog w) A (compareOp .NotEq (.bool a) (.bool b)) Q E s := by
  refine ne_bool ?_
  have e : (a != b) = false := by subst hab; simp
  first | (rw [e]; exact h) | (subst hab; simpa using h)
theorem q_al {q : Nat} {al : Bool} (h : decide (q = 1) = al) : ((q : Int) == 1) = al := by
  rw [← h]
  by_cases hq : q = 1
  · subst hq; rfl
  · rw [decide_eq_false hq]
    exact beq_eq_false_iff_ne.mpr (by omega)
end
end Mine
end

section
open PySem PySem.W PyProof.Rows
set_option maxRecDepth 100000
namespace Mine
theorem strs_at {vals : List Value} {g : Nat → PySem.Str} {n k : Nat} (hn : vals.length = n) (h : ∀ p, p < n → ∃ t, vals[p]? = some (.str (g (k + p)) t)) : StrsAre vals ((List.range' k n).map g) := by
  induction vals generalizing n k with
  | nil => subst hn; exact .nil
  | cons v r ih =>
    subst hn
    obtain ⟨t, ht⟩ := h 0 (Nat.succ_pos _)
    have hv : v = .str (g k) t := by simpa using ht
    subst hv
    rw [List.length_cons, List.range'_succ, List.map_cons]
    refine .cons (g k) t (ih rfl fun p hp => ?_)
    obtain ⟨t', ht'⟩ := h (p + 1) (by rw [List.length_cons]; omega)
    refine ⟨t', ?_⟩
    rw [show k + 1 + p = k + (p + 1) by omega]
    simpa using ht'
def wordOf (l : List Nat) (p : Nat) : PySem.Str := S ((l.drop p).take (wB l p))
theorem words_strs {l : List Nat} {vals : Array Value} (h : WordsAre (ltOf (fun x => x.flatMap escCode) l) l vals) : StrsAre vals.toList ((List.range' 0 l.length).map (wordOf l)) := by
  refine strs_at (by rw [Array.length_toList]; exact h.1) fun p hp => ?_
  obtain ⟨t, ht⟩ := h.2 p hp
  refine ⟨t, ?_⟩
  rw [Nat.zero_add, Array.getElem?_toList]
  exact ht
theorem page_of (l : List Nat) (hl : l.length ≤ 9) (hs : Signs l) : ∀ ps : List Nat, ∃ pg, Str.join (Str.ofString "&\r") (ps.map (wordOf l)) = S pg ∧ pg.length ≤ 11 * ps.length ∧ PageSigns pg
  | [] => ⟨[], rfl, Nat.zero_le _, fun _ h => nomatch h⟩
  | [p] => ⟨(l.drop p).take (wB l p), rfl, by rw [List.length_take, List.length_drop]; simp; omega, fun c hc => by
      rcases hs c (List.mem_of_mem_drop (List.mem_of_mem_take hc)) with h | h | h <;> simp [h]⟩
  | p :: q :: r => by
    obtain ⟨pg, h1, h2, h3⟩ := page_of l hl hs (q :: r)
    refine ⟨(l.drop p).take (wB l p) ++ [38, 13] ++ pg, ?_, ?_, ?_⟩
    · show wordOf l p ++ Str.ofString "&\r" ++ Str.join (Str.ofString "&\r") ((q :: r).map (wordOf l)) = _
      have e : Str.ofString "&\r" = S [38, 13] := by decide
      rw [h1, e]
      unfold wordOf
      rw [S_app, S_app]
    · rw [List.length_append, List.length_append, List.length_take, List.length_drop]
      simp only [List.length_cons, List.length_nil] at h2 ⊢
      omega
    · intro c hc
      rcases List.mem_append.mp hc with hc | hc
      · rcases List.mem_append.mp hc with hc | hc
        · rcases hs c (List.mem_of_mem_drop (List.mem_of_mem_take hc)) with h | h | h <;> simp [h]
        · simp only [List.mem_cons, List.not_mem_nil, or_false] at hc
          rcases hc with h | h <;> simp [h]
      · exact h3 c hc
theorem page_ok (l : List Nat) (hl : l.length ≤ 9) (hs : Signs l) : ∃ pg, Txt.join (Str.ofString "&\r") ((List.range' 0 l.length).map (wordOf l)) = S pg ∧ pg.length ≤ 99 ∧ PageSigns pg := by
  obtain ⟨pg, h1, h2, h3⟩ := page_of l hl hs (List.range' 0 l.length)
  rw [List.length_range'] at h2
  exact ⟨pg, (StrLaws.glued_eq_join _ _).trans h1, by omega, h3⟩
theorem page_room (l : List Nat) (hl : l.length ≤ 9) : (((List.range' 0 l.length).map (wordOf l)).map (·.length)).sum + ((List.range' 0 l.length).map (wordOf l)).length ≤ 1048576 := by
  have key : ∀ ps : List Nat, ((ps.map (wordOf l)).map (·.length)).sum ≤ 9 * ps.length := by
    intro ps
    induction ps with
    | nil => exact Nat.le_refl _
    | cons p r ih =>
      rw [List.map_cons, List.map_cons, List.sum_cons, List.length_cons]
      have : (wordOf l p).length ≤ 9 := by
        unfold wordOf
        rw [S_len, List.length_take, List.length_drop]; omega
      omega
  have := key (List.range' 0 l.length)
  rw [List.length_map, List.length_range'] at *
  omega
end Mine
end

section
open PySem PySem.W PySem.W.X PyProof.Rows
set_option maxRecDepth 100000
namespace Mine
def Hold7 (P : Prop) : Prop := P
theorem stopHere7 {P : Prop} (h : Hold7 P) : P := h
local macro_rules | `(tactic| walk_at "wpC") => `(tactic| (refine stopHere7 ?_))
local macro_rules | `(tactic| walk_at "call ref") => `(tactic| ((with_reducible show wpAny _ _ (call (Value.ref 159) _) _ _ _); refine stopHere7 ?_))
local macro_rules | `(tactic| walk_at "call builtin:len") => `(tactic| (k_dflt (refine' s_len ?zza ?_; (case zza => omega))))
local macro_rules | `(tactic| walk_at "getMethod str") => `(tactic| (with_reducible refine encode_method ?_))
set_option hygiene false in
local macro_rules | `(tactic| walk_at "call builtin:str.encode") => `(tactic| (k_dflt (refine' encode_ok ?zza ?zzb ?zzc ?_; (case zza => omega); (case zzb => omega); (case zzc => (intro c hc; rcases hxs c hc with rfl | rfl | rfl <;> decide))); intro t' k'))
theorem esc_words (w : World) (news : List (Addr × Obj)) (x : List Nat) (hx : x.length ≤ 200) (t : Tok) :
    Claim w 35 4 news [.str (S x) t] (fun v news' => news' = news ∧ ∃ t, v = .str (S (x.flatMap escCode)) t) := by
  have e : S (x.flatMap escCode) = esc (S x) := by
    rw [S_of (esc (S x)), esc_flat, S_list]
  rw [e]
  exact esc_claim w news (S x) (by rw [S_len]; exact hx) t
local macro_rules | `(tactic| walk_at "call ref") => `(tactic| ((with_reducible show wpAny _ _ (call (Value.ref 173) _) _ _ _); refine stopHere7 ?_))
local macro_rules | `(tactic| walk_at "call ref") => `(tactic| ((with_reducible show wpAny _ _ (call (Value.ref 44) _) _ _ _); refine stopHere7 ?_))
local macro_rules | `(tactic| walk_at "call ref") => `(tactic| ((with_reducible show wpAny _ _ (call (Value.ref 187) _) _ _ _); refine stopHere7 ?_))
local macro_rules | `(tactic| walk_at "call ref") => `(tactic| ((with_reducible show wpAny _ _ (call (Value.ref 192) _) _ _ _); refine stopHere7 ?_))
local macro_rules | `(tactic| walk_at "call ref") => `(tactic| ((with_reducible show wpAny _ _ (call (Value.ref 35) _) _ _ _); refine stopHere7 ?_))
local macro_rules | `(tactic| walk_at "call builtin:str.join") => `(tactic| (refine stopHere7 ?_))
local macro_rules | `(tactic| walk_at "compareOp NotEq ref ref") => `(tactic| (refine stopHere7 ?_))
local macro_rules | `(tactic| walk_at "pyIter ref") => `(tactic| (refine stopHere7 ?_))
set_option hygiene false in
local macro_rules | `(tactic| walk_at "subscriptTail Name Name ref int") => `(tactic| (k_dflt (first
  | (refine' list_itemN (l := W1) (n := 0) ?zza ?zzm ?zzb ?zzc hvA ?_ ?zze; (case zza => k_asm); (case zzm => repeat (first | exact hmW1 | apply List.mem_append_right | apply List.mem_cons_of_mem)); (case zzb => omega); (case zzc => omega); (case zze => with_unfolding_all rfl); k_whole)
  | (refine' list_itemN (l := W2) (n := 0) ?zza ?zzm ?zzb ?zzc hvB ?_ ?zze; (case zza => k_asm); (case zzm => repeat (first | exact hmW2 | apply List.mem_append_right | apply List.mem_cons_of_mem)); (case zzb => omega); (case zzc => omega); (case zze => with_unfolding_all rfl); k_whole))))
set_option hygiene false in
local macro_rules | `(tactic| walk_at "call builtin:sorted") => `(tactic| (k_dflt (refine' sorted_two (q := q) ?zza ?zzb ?zzm ?zzc ?zzd ?_; (case zza => k_asm); (case zzb => k_asm); (case zzm => exact .head _); (case zzc => omega); (case zzd => assumption)); intro D' h' t1' t2' e' F' N' l1'))
set_option hygiene false in
local macro_rules | `(tactic| walk_at "subscriptTail") => `(tactic| ((with_reducible show wpAny _ _ (subscriptTail _ _ (Value.str _ _) (Value.ref _)) _ _ _); (with_reducible rename Fr _ _ _ _ => F'); (with_reducible rename News _ _ _ _ => N'); k_dflt (refine' s_fromN (s := ⟨_, _, _, _, _⟩) p ?zza F' N' ?zzb ?zzc ?_; (case zza => omega); (case zzb => omega); (case zzc => omega)); intro h' t' k' F' N'; (try k_sweep)))
set_option hygiene false in
local macro_rules | `(tactic| walk_at "subscriptTail Name Name str int") => `(tactic| ((with_reducible show wpAny _ _ (subscriptTail _ _ (Value.str _ _) (Value.int _ _)) _ _ _); k_dflt (refine' s_itemN p ?zza ?zzb ?zzc ?_; (case zza => omega); (case zzb => omega); (case zzc => omega)); intro t' k'))
set_option hygiene false in
local macro_rules | `(tactic| walk_at "binaryOp Mult str int") => `(tactic| (k_dflt (refine' s_mul1 (j := l.length - p) ?zza ?zzb ?zzc ?_; (case zza => omega); (case zzb => omega); (case zzc => omega)); intro t' k'))
set_option hygiene false in
local macro_rules | `(tactic| walk_at "compareOp Eq str str") => `(tactic| (first | (with_reducible refine s_eq hdal ?_) | (with_reducible refine s_eq (beq_self_eq_true _) ?_)))
set_option hygiene false in
local macro_rules | `(tactic| walk_at "compareOp NotEq bool bool") => `(tactic| (k_dflt (refine ne_boolF (q_al hqal) ?_)))
local macro_rules | `(tactic| walk_at "exec For Name Name cons nil") => `(tactic| ((with_reducible rename Fr _ _ _ _ => lF'); (with_unfolding_all refine' For_invVF lF' ?zzk ?zzl ?_; (case zzk => exact rfl); (case zzl => exact rfl); k_whole)))
set_option hygiene false in
local macro_rules | `(tactic| walk_at "call ref") => `(tactic| ((with_reducible show wpAny _ _ (call (Value.ref 180) _) _ _ _); k_dflt (first
  | (refine' claim_use (goesOn_at w _ _ (oct l) (bInts_of h128) hol sz (p + sz) _ ?zzd ?zze hoe _ _ _) ?zk1 ?zk2 ?zk3 ?zk4 ?zk5 ?zk6 ?zk7 ?zk8 ?_; (case zzd => omega); (case zze => omega); (case zk1 => k_asm); (case zk2 => k_asm); (case zk3 => k_asm); (case zk4 => k_asm); (case zk5 => k_asm); (case zk6 => exact rfl); (case zk7 => omega); (case zk8 => omega))
  | (refine' claim_use (goesOn_at w _ b2 (oct l).reverse hb2 hor sz (l.length - p) _ ?zzd ?zze hoe2 _ _ _) ?zk1 ?zk2 ?zk3 ?zk4 ?zk5 ?zk6 ?zk7 ?zk8 ?_; (case zzd => omega); (case zze => omega); (case zk1 => k_asm); (case zk2 => k_asm); (case zk3 => k_asm); (case zk4 => k_asm); (case zk5 => k_asm); (case zk6 => exact rfl); (case zk7 => omega); (case zk8 => omega))); intro v' news' h' tk' F' N' hp'; obtain ⟨hnn, r', t', hvv, hgo⟩ := hp'; subst hnn; subst hvv))
local macro_rules | `(tactic| walk_at "call builtin:len") => `(tactic| ((with_reducible show wpAny _ _ (call _ [Value.ref _]) _ _ _); k_dflt (refine' list_lenN ?zza ?zzm ?zzb ?_; (case zza => k_asm); (case zzm => exact .tail _ (.head _)); (case zzb => omega); k_whole); intro t' k'))
local macro_rules | `(tactic| walk_at "compareOp NotIn ref ref") => `(tactic| (refine stopHere7 ?_))
local macro_rules | `(tactic| walk_at "call builtin:list.append") => `(tactic| (refine stopHere7 ?_))
local macro_rules | `(tactic| walk_at "GenPost") => `(tactic| (refine stopHere7 ?_))
local macro_rules | `(tactic| walk_at "GenEnd") => `(tactic| (refine stopHere7 ?_))
namespace LwN
set_option maxHeartbeats 16000000 in
noncomputable def sa : {P : World → Shared → Shared → (Str → Option Value) → (Str → Option Value) → Addr → Value → Addr → (Flow → Shared → Prop) → Nat → List Nat → Tok → Tok → Array UInt8 → Tok → Addr → Array Value → List (Addr × Obj) → Addr → Array Value → List (Addr × Obj) → Addr → RS → Nat → Tok → (Str → Option Value) → Addr → Heap → Nat → Obj → Prop // Hid (∀ w s₀ s₁ mg mb fa cd wl qk tkq l tq t' b2 t2 W1 vals1 tabs1 W2 vals2 tabs2 D c p ti u I h tk o', P w s₀ s₁ mg mb fa cd wl qk tkq l tq t' b2 t2 W1 vals1 tabs1 W2 vals2 tabs2 D c p ti u I h tk o') → (∀ d kwd, defOf vw PySem.Challenge.rw_xp0017_01.row.name = some (d, kwd) → WalkC vw loose9 (XL vw []) Says9 PySem.Challenge.rw_xp0017_01.row.toRowW d kwd)} := by
  refine' ⟨_, fun H => _⟩
  rotate_left
  · refine pin (by rfl) ?_
    unfold Says9
    k_fill
    intro w s₀ s₁ mg mb G Y fa o pm cd doc dV kV ho hd hcd hD hmg hg args vals as hpre hlay hrd hwl hlo
    have KX : (Mine.hd.heap_1 w.params).In _ := Y.1
    have hT8 := Y.2
    have X := (Ground.X G).1
    have V := (Ground.X G).2
    refine Ground.open G ?_
    intro T B D TE TW
    try (refine guard_noD D (by decide +kernel) ?_; clear D)
    km_lay T hmg ho hd cd
    clear hmg
    wrow_args hpre hlay hrd hwl hlo
    refine enter_callC ?_
    w_top on
    refine kn_postC w hT9 (fun _ _ => rfl) ?_
    have he := Dflts.none hD rfl
    subst he
    refine call_fullC (by decide) ho hd (Top.nolimit T) hcd (BindsTo.of_eq rfl) (locs rfl) fun h₁ F => ?_
    w_binds F
    have N0 := (News.nil : News _ _ _ []).at F
    clear hd
    kn_ghosts F T
    k_drop
    rename IntsAre _ _ => hI
    rename ¬ _ < _ => hlen
    rename Frag.In _ _ => X'
    rename Below _ _ _ _ => B'
    rename News _ _ _ _ => N'
    rename Fr _ _ _ _ => F'
    rename Top topProg _ _ _ _ _ => T'
    clear G Y X V B TE TW hT8 hcd ho
    dsimp only at codeHd ⊢
    rename_i wl _ _ _ _ _ _ _ _ _
    refine foldC (fun qk hqk => ?_)
    refine (show wpC (model prog w) (ktrTop 302 7 (some []) _ _ _ _ _ _ []) _ _ _ _ from ?_)
    have hlen2 := Nat.le_of_not_lt fun c => hlen (Int.ofNat_lt.mpr c)
    clear hlen T hD
    refine wpC_execs_cons (wpC_of ?_)
    k_steps
    unfold Hold7
    refine text_claim w _ _ _ _ hI hlen2 _ _ _ _ _ _ _ _ _ _ _ _ _ _ _ _ _ _ _ _ _ _ lifted B' (by k_asm) X' (by k_asm) T' rfl (by omega) (by omega) ?_
    rintro v' news' h' tkq F1 N1 ⟨rfl, l, tq, rfl, hx1, hx9, hxs⟩
    clear F' N'
    k_steps
    refine wpC_execs_cons (wpC_of ?_)
    k_steps
    refine wpC_execs_cons (wpC_of ?_)
    k_steps
    unfold Hold7
    show wpC _ _ _ _ _ _
    refine wpC_execs_cons (wpC_Assign_Name (wpC_Call_Name rfl ?_))
    k_steps
    unfold Hold7
    refine callWithC_K X' (by kernel_rfl) ?_
    k_steps
    unfold Hold7
    have h128 : ∀ c ∈ l, c < 128 := fun c hc => by rcases hxs c hc with rfl | rfl | rfl <;> decide
    have hsw := fun t1 t2 => swap_claim w [(168, tabObj #[])] _ _ (bInts_of h128) (by rw [List.length_map]; exact hx9) (by rw [List.length_map]; exact hx1) t1 t2
    simp only [List.length_map] at hsw
    rename Fr _ _ _ _ => F2
    rename News _ _ _ _ => N2
    refine hsw _ _ _ _ _ _ _ _ _ _ _ _ _ _ _ _ _ _ _ _ _ _ _ _ B' F2 X' N2 T' rfl (by omega) (by omega) ?_
    clear hsw
    rintro v' news' h' tk' F3 N3 ⟨rfl, b2, t2, rfl, hb2⟩
    clear F2 N2
    k_steps
    unfold Hold7
    refine wpC_of ?_
    k_steps
    unfold Hold7
    rename Fr _ _ _ _ => F4
    rename News _ _ _ _ => N4
    refine claim_use (words_claim w [(168, tabObj #[])] [] (.inl rfl) (by simp) l hx9 _ 166 id rfl (fun news x t _ => asItIs_claim w news (S x) t)) B' F4 X' N4 T' rfl (by omega) (by omega) ?_
    rintro v' news' h' tk' F5 N5 ⟨W1, vals1, tabs1, rfl, rfl, hT1, hW1, hlt1⟩
    clear F4 N4
    k_steps
    unfold Hold7
    rename Fr _ _ _ _ => F6
    rename News _ _ _ _ => N6
    have h168 : ∀ p ∈ [(W1, listOf vals1 0)], p.1 ≠ 168 := by
      obtain ⟨ob, hob⟩ := hT1.has
      intro p hp
      rw [List.mem_singleton.mp hp]
      exact Nat.ne_of_gt (hlt1 _ (List.mem_append_left _ hob))
    have N6' : News _ _ _ (tabs1 ++ [(W1, listOf vals1 0)]) := fun p hp => N6 p (by
      rcases List.mem_append.mp hp with hp | hp
      · exact .tail _ (List.mem_append_left _ hp)
      · rw [List.mem_singleton.mp hp]; exact .head _)
    refine claim_use (words_claim w tabs1 [(W1, listOf vals1 0)] hT1 h168 l hx9 _ 35 (fun x => x.flatMap escCode) rfl (fun news x t hx => esc_words w news x hx t)) B' F6 X' N6' T' rfl (by omega) (by omega) ?_
    rintro v' news' h' tk' F7 N7 ⟨W2, vals2, tabs2, rfl, rfl, hT2, hW2, hlt2⟩
    clear F6 N6 N6'
    k_steps
    unfold Hold7
    rename_i h30 tk30 D h31 lD h32 F8 N8 h33 tk33 ta ua va rg F9 N9 k9
    clear F8 N8 k9 h168 hlt1 hI hlen2
    have hS : Signs l := hxs
    have hmW2 : (W2, listOf vals2 0) ∈ (W2, listOf vals2 0) :: (tabs2 ++ [(W1, listOf vals1 0)]) := .head _
    have hmW1 : (W1, listOf vals1 0) ∈ (W2, listOf vals2 0) :: (tabs2 ++ [(W1, listOf vals1 0)]) := .tail _ (List.mem_append_right _ (.head _))
    refine gen_range (σ := RS) (n := l.length) (fun c => (D, listOf c.its c.n) :: (c.tups ++ (W2, listOf vals2 0) :: (tabs2 ++ [(W1, listOf vals1 0)]))) (fun _ => []) (fun c => Trips c.tups c.its.toList c.xs ∧ ∀ p ∈ c.tups, p.1 ≠ D) ["sizes", "alike", "here", "size", "end", "begin", "run"] (fun i c => ToldTo l i c.xs ∧ c.its.size ≤ i) ⟨#[], 0, [], []⟩
      rfl rg (small_one (by omega) (by omega) (by omega) (by omega)) (by rw [rangeSize_nat]; omega) F9 N9 ⟨.nil, by simp⟩ (by simp) ⟨ToldTo.start l, Nat.le_refl _⟩ ?_ ?_
    · intro c p ti u I h tk o' hp hI hFc hPc F10 N10
      clear F9 N9
      revert X' T' B' hx1 hx9 hxs h128 hb2 hT1 hW1 hT2 hW2 lD hS hmW2 hmW1 hp hI hFc hPc F10 N10
      dsimp only
      exact H.out w s₀ s₁ mg mb fa cd wl qk tkq l tq t' b2 t2 W1 vals1 tabs1 W2 vals2 tabs2 D c p ti u I h tk o'
    · intro c u h tk hFc hPc F10 N10
      clear F9 N9
      k_steps
      unfold Hold7
      refine claim_use (runs_claim w _ l hx9 _) B' F10 X' N10 T' rfl (by omega) (by omega) ?_
      rintro v' news' h' tk' F11 N11 ⟨R, its, n, tups, xs, rfl, rfl, hTR, hRT, hszR⟩
      clear F10 N10
      k_steps
      unfold Hold7
      rename Fr _ _ _ _ => F12
      rename News _ _ _ _ => N12
      have hsame : c.xs = xs := runs_same hS hPc.1.1 hPc.1.2 hRT
      refine trips_ne (H1 := D) (H2 := R) (xs := c.xs) (ys := xs) (r := false) N12 (.tail _ (List.mem_append_right _ (.head _))) (.head _) (hFc.1.mono fun z hz => .tail _ (List.mem_append_right _ (.tail _ (List.mem_append_left _ hz)))) (hTR.mono fun z hz => .tail _ (List.mem_append_left _ hz)) (by first | ktr_units | decide) (by rw [hsame]; simp) ?_
      k_steps
      unfold Hold7
      rename Fr _ _ _ _ => F13
      rename News _ _ _ _ => N13
      refine join_listW (ys := (List.range' 0 l.length).map (wordOf l)) ⟨_, (N13 (W2, listOf vals2 0) (.tail _ (List.mem_append_right _ (.tail _ (List.mem_append_right _ (.head _)))))).1, rfl, _, rfl⟩ (words_strs hW2) (by decide) (page_room l hx9) ?_
      intro t50 k50
      obtain ⟨pg, hpg, hpl, hps⟩ := page_ok l hx9 hS
      rw [hpg]
      k_steps
      unfold Hold7
      rename Fr _ _ _ _ => F14
      rename News _ _ _ _ => N14
      refine claim_use (esc_words w _ pg (by omega) _) B' F14 X' N14 T' rfl (by omega) (by omega) ?_
      rintro v' news' h' tk' F15 N15 ⟨rfl, t51, rfl⟩
      clear F14 N14
      k_steps
      unfold Hold7
      rename Fr _ _ _ _ => F16
      rename News _ _ _ _ => N16
      refine claim_use (spelled_claim w _ pg (by omega) hps _) B' F16 X' N16 T' rfl (by omega) (by omega) ?_
      rintro v' news' h' tk' F17 N17 ⟨rfl, t52, rfl⟩
      clear F16 N16
      k_steps
      obtain ⟨ps, hps2⟩ : ∃ ps, (168, tabObj ps) ∈ tabs2 := by
        rcases hT2 with rfl | ⟨c', oc, vs, t, rfl, _⟩
        · exact ⟨_, .head _⟩
        · exact ⟨_, .tail _ (.head _)⟩
      have hgrown : GrownAll [(172, 168)] h' := ⟨GrownAt.of N17 (.tail _ (List.mem_append_right _ (.tail _ (List.mem_append_right _ (.tail _ (List.mem_append_left _ hps2)))))), trivial⟩
      refine hqk _ _ ⟨?_, hgrown⟩
      dsimp only
      k_steps
@[irreducible] noncomputable def eb : World × Shared × Shared × (Str → Option Value) × (Str → Option Value) × Addr × Value × Addr × (Flow → Shared → Prop) × Nat × List Nat × Tok × Tok × Array UInt8 × Tok × Addr × Array Value × List (Addr × Obj) × Addr × Array Value × List (Addr × Obj) × Addr × RS × Nat × Tok × (Str → Option Value) × Addr × Heap × Nat × Obj := worst (w0, ((start Mine.prog).1), ((start Mine.prog).1), (fun _ => none), (fun _ => none), 0, .none, 0, (fun _ _ => True), 0, [], 0, 0, #[], 0, 0, #[], [], 0, #[], [], 0, (⟨#[], 0, [], []⟩), 0, 0, (fun _ => none), 0, hp0, 0, default) fun e => sa.1 e.1 e.2.1 e.2.2.1 e.2.2.2.1 e.2.2.2.2.1 e.2.2.2.2.2.1 e.2.2.2.2.2.2.1 e.2.2.2.2.2.2.2.1 e.2.2.2.2.2.2.2.2.1 e.2.2.2.2.2.2.2.2.2.1 e.2.2.2.2.2.2.2.2.2.2.1 e.2.2.2.2.2.2.2.2.2.2.2.1 e.2.2.2.2.2.2.2.2.2.2.2.2.1 e.2.2.2.2.2.2.2.2.2.2.2.2.2.1 e.2.2.2.2.2.2.2.2.2.2.2.2.2.2.1 e.2.2.2.2.2.2.2.2.2.2.2.2.2.2.2.1 e.2.2.2.2.2.2.2.2.2.2.2.2.2.2.2.2.1 e.2.2.2.2.2.2.2.2.2.2.2.2.2.2.2.2.2.1 e.2.2.2.2.2.2.2.2.2.2.2.2.2.2.2.2.2.2.1 e.2.2.2.2.2.2.2.2.2.2.2.2.2.2.2.2.2.2.2.1 e.2.2.2.2.2.2.2.2.2.2.2.2.2.2.2.2.2.2.2.2.1 e.2.2.2.2.2.2.2.2.2.2.2.2.2.2.2.2.2.2.2.2.2.1 e.2.2.2.2.2.2.2.2.2.2.2.2.2.2.2.2.2.2.2.2.2.2.1 e.2.2.2.2.2.2.2.2.2.2.2.2.2.2.2.2.2.2.2.2.2.2.2.1 e.2.2.2.2.2.2.2.2.2.2.2.2.2.2.2.2.2.2.2.2.2.2.2.2.1 e.2.2.2.2.2.2.2.2.2.2.2.2.2.2.2.2.2.2.2.2.2.2.2.2.2.1 e.2.2.2.2.2.2.2.2.2.2.2.2.2.2.2.2.2.2.2.2.2.2.2.2.2.2.1 e.2.2.2.2.2.2.2.2.2.2.2.2.2.2.2.2.2.2.2.2.2.2.2.2.2.2.2.1 e.2.2.2.2.2.2.2.2.2.2.2.2.2.2.2.2.2.2.2.2.2.2.2.2.2.2.2.2.1 e.2.2.2.2.2.2.2.2.2.2.2.2.2.2.2.2.2.2.2.2.2.2.2.2.2.2.2.2.2
@[irreducible] noncomputable def w : World := eb.1
@[irreducible] noncomputable def s₀ : Shared := eb.2.1
@[irreducible] noncomputable def s₁ : Shared := eb.2.2.1
@[irreducible] noncomputable def mg : Str → Option Value := eb.2.2.2.1
@[irreducible] noncomputable def mb : Str → Option Value := eb.2.2.2.2.1
@[irreducible] noncomputable def fa : Addr := eb.2.2.2.2.2.1
@[irreducible] noncomputable def cd : Value := eb.2.2.2.2.2.2.1
@[irreducible] noncomputable def wl : Addr := eb.2.2.2.2.2.2.2.1
@[irreducible] noncomputable def qk : Flow → Shared → Prop := eb.2.2.2.2.2.2.2.2.1
@[irreducible] noncomputable def tkq : Nat := eb.2.2.2.2.2.2.2.2.2.1
@[irreducible] noncomputable def l : List Nat := eb.2.2.2.2.2.2.2.2.2.2.1
@[irreducible] noncomputable def tq : Tok := eb.2.2.2.2.2.2.2.2.2.2.2.1
@[irreducible] noncomputable def t' : Tok := eb.2.2.2.2.2.2.2.2.2.2.2.2.1
@[irreducible] noncomputable def b2 : Array UInt8 := eb.2.2.2.2.2.2.2.2.2.2.2.2.2.1
@[irreducible] noncomputable def t2 : Tok := eb.2.2.2.2.2.2.2.2.2.2.2.2.2.2.1
@[irreducible] noncomputable def W1 : Addr := eb.2.2.2.2.2.2.2.2.2.2.2.2.2.2.2.1
@[irreducible] noncomputable def vals1 : Array Value := eb.2.2.2.2.2.2.2.2.2.2.2.2.2.2.2.2.1
@[irreducible] noncomputable def tabs1 : List (Addr × Obj) := eb.2.2.2.2.2.2.2.2.2.2.2.2.2.2.2.2.2.1
@[irreducible] noncomputable def W2 : Addr := eb.2.2.2.2.2.2.2.2.2.2.2.2.2.2.2.2.2.2.1
@[irreducible] noncomputable def vals2 : Array Value := eb.2.2.2.2.2.2.2.2.2.2.2.2.2.2.2.2.2.2.2.1
@[irreducible] noncomputable def tabs2 : List (Addr × Obj) := eb.2.2.2.2.2.2.2.2.2.2.2.2.2.2.2.2.2.2.2.2.1
@[irreducible] noncomputable def D : Addr := eb.2.2.2.2.2.2.2.2.2.2.2.2.2.2.2.2.2.2.2.2.2.1
@[irreducible] noncomputable def c : RS := eb.2.2.2.2.2.2.2.2.2.2.2.2.2.2.2.2.2.2.2.2.2.2.1
@[irreducible] noncomputable def p : Nat := eb.2.2.2.2.2.2.2.2.2.2.2.2.2.2.2.2.2.2.2.2.2.2.2.1
@[irreducible] noncomputable def ti : Tok := eb.2.2.2.2.2.2.2.2.2.2.2.2.2.2.2.2.2.2.2.2.2.2.2.2.1
@[irreducible] noncomputable def u : Str → Option Value := eb.2.2.2.2.2.2.2.2.2.2.2.2.2.2.2.2.2.2.2.2.2.2.2.2.2.1
@[irreducible] noncomputable def I : Addr := eb.2.2.2.2.2.2.2.2.2.2.2.2.2.2.2.2.2.2.2.2.2.2.2.2.2.2.1
@[irreducible] noncomputable def h : Heap := eb.2.2.2.2.2.2.2.2.2.2.2.2.2.2.2.2.2.2.2.2.2.2.2.2.2.2.2.1
@[irreducible] noncomputable def tk : Nat := eb.2.2.2.2.2.2.2.2.2.2.2.2.2.2.2.2.2.2.2.2.2.2.2.2.2.2.2.2.1
@[irreducible] noncomputable def o' : Obj := eb.2.2.2.2.2.2.2.2.2.2.2.2.2.2.2.2.2.2.2.2.2.2.2.2.2.2.2.2.2
set_option maxHeartbeats 16000000 in
theorem sb : sa.1 w s₀ s₁ mg mb fa cd wl qk tkq l tq t' b2 t2 W1 vals1 tabs1 W2 vals2 tabs2 D c p ti u I h tk o' := by
  unfold sa
  dsimp only
  intro X' T' B' hx1 hx9 hxs h128 hb2 hT1 hW1 hT2 hW2 lD hS hmW2 hmW1 hp hI hFc hPc F10 N10
  have e0 : (0 : Int) + (p : Int) * 1 = (p : Int) := by omega
  rw [e0] at F10
  clear e0
  obtain ⟨q, al, hq1, hq2, hpq, hqal, hdal⟩ := sizes_pq hS hp
  obtain ⟨tA, hvA⟩ := hW1.2 p hp
  obtain ⟨tB, hvB⟩ := hW2.2 p hp
  have hlA : ((l.drop p).take (wA l p)).length = wA l p := by
    have := (word_A hS hp).le
    rw [List.length_take, List.length_drop]; omega
  have hlB : ((l.drop p).take (wB l p)).length = wB l p := by
    have := (word_B hS hp).le
    rw [List.length_take, List.length_drop]; omega
  change vals1[p]? = some (.str (S ((l.drop p).take (wA l p))) tA) at hvA
  change vals2[p]? = some (.str (S ((l.drop p).take (wB l p))) tB) at hvB
  generalize (l.drop p).take (wA l p) = uA at hvA hlA
  generalize (l.drop p).take (wB l p) = uB at hvB hlB
  k_steps
  · exact absurd (show [(1 : Int), (q : Int)].getD (Int.toNat 0) 0 = 1 from rfl) (by assumption)
  unfold Hold7
  rename_i H h40 lH h41 F11 N11
  have N12 : News _ _ h41 ((D', listOf #[.int 1 t1', .int (q : Int) t2'] e') :: (H, listOf #[] 0) :: ([] ++ (I, o') :: (D, listOf c.its c.n) :: (c.tups ++ (W2, listOf vals2 0) :: (tabs2 ++ [(W1, listOf vals1 0)])))) := fun z hz => N11 z (by
    rcases List.mem_cons.mp hz with rfl | hz
    · exact .tail _ (.head _)
    · rcases List.mem_cons.mp hz with rfl | hz
      · exact .head _
      · exact .tail _ (.tail _ (.tail _ hz)))
  have hH1 : D' ≠ H := Nat.ne_of_lt lH.1
  have hH2 : I ≠ H := Nat.ne_of_lt lH.2.2.1
  have hH3 : D ≠ H := Nat.ne_of_lt lH.2.2.2.1
  have hHb := allLt_off lH.2.2.2.2
  have hD1 : I ≠ D' := Nat.ne_of_lt (l1' _ (.tail _ (.head _)))
  have hD2 : D ≠ D' := Nat.ne_of_lt (l1' _ (.tail _ (.tail _ (.head _))))
  have hDb : ∀ z ∈ c.tups ++ (W2, listOf vals2 0) :: (tabs2 ++ [(W1, listOf vals1 0)]), z.1 ≠ D' := fun z hz => Nat.ne_of_lt (l1' z (.tail _ (.tail _ (.tail _ hz))))
  clear N11 lH l1'
  refine gen_list (σ := RS) (l := D') (vs := #[.int 1 t1', .int (q : Int) t2']) (nn := e') (fun c2 => (D', listOf #[.int 1 t1', .int (q : Int) t2'] e') :: (H, listOf c2.its c2.n) :: (c2.tups ++ (I, o') :: (D, listOf c.its c.n) :: (c.tups ++ (W2, listOf vals2 0) :: (tabs2 ++ [(W1, listOf vals1 0)])))) (fun _ => [])
    (fun c2 => Trips c2.tups c2.its.toList c2.xs ∧ ∀ z ∈ c2.tups, z.1 ≠ D' ∧ z.1 ≠ H ∧ z.1 ≠ I ∧ z.1 ≠ D) ["end", "begin"] (fun j c2 => Here l p q j c2.xs) ⟨#[], 0, [], []⟩ rfl (fun _ => .head _) F11 N12 ⟨.nil, by simp⟩ (by simp) (Here.start l p q) ?_ ?_
  · intro c2 j v u2 I2 h42 tk42 o2 hv hI2 hF2 hP2 F13 N13
    clear F11 N12
    obtain ⟨sz, tz, rfl, hsz, hj⟩ : ∃ (sz : Nat) (tz : Tok), v = .int (sz : Int) tz ∧ sz = (if j = 0 then 1 else q) ∧ j < 2 := by
      match j, hv with
      | 0, hv => exact ⟨1, t1', (Option.some.inj hv).symm, rfl, by omega⟩
      | 1, hv => exact ⟨q, t2', (Option.some.inj hv).symm, rfl, by omega⟩
      | j + 2, hv => exact absurd hv (by simp)
    have hsz1 : 1 ≤ sz := by rw [hsz]; split <;> omega
    have hsz2 : p + sz ≤ l.length := by rw [hsz]; split <;> omega
    have hol : (oct l).length ≤ 9 := by rw [List.length_map]; exact hx9
    have hor : (oct l).reverse.length ≤ 9 := by rw [List.length_reverse]; exact hol
    have hoe : p + sz ≤ (oct l).length := by rw [List.length_map]; exact hsz2
    have hoe2 : l.length - p ≤ (oct l).reverse.length := by rw [List.length_reverse, List.length_map]; omega
    clear hv
    k_steps
    · unfold Hold7
      rename_i r1 t43 hg1 h43 tk43 h44 ha1 ha2 T h45 F14 N14 l14
      have hbn := leaf_int hsz1 hsz2 hgo
      rw [hbn] at N14
      cases hin : (!c2.xs.contains (l.length - r', r1, sz)) with
      | false =>
        refine trips_notIn (x := (l.length - r', r1, sz)) (xs := c2.xs) N14 (.tail _ (.tail _ (.tail _ (.head _)))) ⟨T, _, _, _, rfl, .head _⟩ (hF2.1.mono fun z hz => .tail _ (.tail _ (.tail _ (.tail _ (List.mem_append_left _ hz))))) (by first | ktr_units | decide) hin ?_
        k_steps
        unfold Hold7
        rename Fr _ _ _ _ => F15
        rename News _ _ _ _ => N15
        show GenEnd _ _ _ _ _ _ _
        refine gen_end c2 F15 N15 (.tail _ (.head _)) (fun z hz => .tail _ (.tail _ hz)) (fun z hz => hI2 z hz) hF2 (List.forall_mem_nil _) ?_ (leaf_in hP2 hsz hsz1 hsz2 hg1 hgo (by simpa using hin))
        intro z h1 h2 h3
        have hz1 : z ≠ Str.ofString "end" := by intro e; subst e; revert h3; decide
        have hz2 : z ≠ Str.ofString "begin" := by intro e; subst e; revert h3; decide
        simp [kstB, h1, hz1, hz2, h3]
      | true =>
        refine trips_notIn (x := (l.length - r', r1, sz)) (xs := c2.xs) N14 (.tail _ (.tail _ (.tail _ (.head _)))) ⟨T, _, _, _, rfl, .head _⟩ (hF2.1.mono fun z hz => .tail _ (.tail _ (.tail _ (.tail _ (List.mem_append_left _ hz))))) (by first | ktr_units | decide) hin ?_
        k_steps
        unfold Hold7
        rename_i T2 h46 F15 N15 l15
        rw [hbn] at N15
        obtain ⟨y1, y2, y3, N16⟩ := head_trip (x := (l.length - r', r1, sz)) N15 ⟨_, _, _, rfl⟩
        clear N15
        have hoff15 := allLt_off l15.2.2.2.2
        have hlen2 := hF2.1.len
        rw [Array.length_toList] at hlen2
        k_dflt refine append_K (s := ⟨_, _, _, _, _⟩) F15 N16 (.tail (Nat.ne_of_gt l15.2.2.2.1) (.tail (Nat.ne_of_gt l14.2.2.1) (.tail (Ne.symm (hI2 _ (.tail _ (.head _)))) (.tail hH1 (.head (fun z hz => ?_)))))) ?_ (by have := hP2.1; rw [sizeLine_eq]; omega)
        · rcases List.mem_append.mp hz with hz | hz
          · exact (hF2.2 z hz).2.1
          · rcases List.mem_cons.mp hz with rfl | hz
            · exact hH2
            · rcases List.mem_cons.mp hz with rfl | hz
              · exact hH3
              · exact hHb z hz
        intro h47 F17 N17
        clear F15 N16
        k_steps
        unfold Hold7
        rename Fr _ _ _ _ => F18
        rename News _ _ _ _ => N18
        obtain ⟨hnil, hyes⟩ := leaf_yes hS hp hpq hP2 hsz hsz1 hsz2 hg1 hgo ha1 ha2 (by simpa using hin)
        show GenEnd _ _ _ _ _ _ _
        refine gen_end (⟨c2.its.push (.ref T2), c2.n + 1, (T2, tup3 (l.length - r', r1, sz) y1 y2 y3) :: c2.tups, [(l.length - r', r1, sz)]⟩ : RS) F18 N18 (.tail _ (.tail _ (.head _))) (fun z hz => ?_) (fun z hz => ?_) ⟨?_, fun z hz => ?_⟩ (List.forall_mem_nil _) ?_ hyes
        · rcases List.mem_cons.mp hz with rfl | hz
          · exact .tail _ (.tail _ (.tail _ (.head _)))
          · rcases List.mem_cons.mp hz with rfl | hz
            · exact .tail _ (.tail _ (.tail _ (.tail _ (.head _))))
            · rcases List.mem_cons.mp hz with rfl | hz
              · exact .head _
              · exact .tail _ (.tail _ (.tail _ (.tail _ (.tail _ hz))))
        · rcases List.mem_cons.mp hz with rfl | hz
          · exact hI2 _ (.head _)
          · rcases List.mem_cons.mp hz with rfl | hz
            · exact hI2 (H, listOf c2.its c2.n) (.tail _ (.head _))
            · rcases List.mem_cons.mp hz with rfl | hz
              · exact Nat.ne_of_gt l15.2.1
              · exact hI2 _ (.tail _ (.tail _ hz))
        · show Trips _ (Array.push _ _).toList _
          rw [Array.toList_push]
          have hnt := hF2.1
          rw [hnil] at hnt
          exact (hnt.mono fun z hz => .tail _ hz).append (.cons ⟨_, _, _, _, rfl, .head _⟩ .nil)
        · rcases List.mem_cons.mp hz with rfl | hz
          · exact ⟨Nat.ne_of_gt l15.2.2.1, Nat.ne_of_gt l15.2.2.2.1, (hoff15 (I, o') (List.mem_append_right _ (.head _))).symm, (hoff15 (D, listOf c.its c.n) (List.mem_append_right _ (.tail _ (.head _)))).symm⟩
          · exact hF2.2 z hz
        · intro z h1 h2 h3
          have hz1 : z ≠ Str.ofString "end" := by intro e; subst e; revert h3; decide
          have hz2 : z ≠ Str.ofString "begin" := by intro e; subst e; revert h3; decide
          simp [kstB, h1, hz1, hz2, h3]
    all_goals
      unfold Hold7
      rename Fr _ _ _ _ => F15
      rename News _ _ _ _ => N15
      rename GoneOn _ _ (p + sz) _ => hg1
      show GenEnd _ _ _ _ _ _ _
      refine gen_end c2 F15 N15 (.head _) (fun z hz => .tail _ hz) (fun z hz => hI2 z hz) hF2 (List.forall_mem_nil _) ?_ (leaf_no hP2 hsz hsz1 hsz2 hg1 hgo (fun ⟨a, b⟩ => by omega))
      intro z h1 h2 h3
      have hz1 : z ≠ Str.ofString "end" := by intro e; subst e; revert h3; decide
      have hz2 : z ≠ Str.ofString "begin" := by intro e; subst e; revert h3; decide
      simp [kstB, h1, hz1, hz2, h3]
  · intro c2 u2 h42 tk42 hF2 hP2' F13 N13
    clear F11 N12
    have hP2 : Here l p q 2 c2.xs := hP2'
    clear hP2'
    have hlen2 := hF2.1.len
    rw [Array.length_toList] at hlen2
    have hsz2 : c2.its.size ≤ 1 := by have := hP2.1; omega
    k_steps
    unfold Hold7
    rename Fr _ _ _ _ => F14
    rename News _ _ _ _ => N14
    have htold := hP2.told hpq
    have hDoff : ∀ z ∈ (H, listOf c2.its c2.n) :: (I, o') :: (c2.tups ++ (c.tups ++ (W2, listOf vals2 0) :: (tabs2 ++ [(W1, listOf vals1 0)]))), z.1 ≠ D := by
      intro z hz
      rcases List.mem_cons.mp hz with rfl | hz
      · exact Ne.symm hH3
      · rcases List.mem_cons.mp hz with rfl | hz
        · exact (hI (D, listOf c.its c.n) (.head _)).symm
        · rcases List.mem_append.mp hz with hz | hz
          · exact (hF2.2 z hz).2.2.2
          · rcases List.mem_append.mp hz with hz | hz
            · exact hFc.2 z hz
            · rcases List.mem_cons.mp hz with rfl | hz
              · exact Nat.ne_of_lt lD.1
              · exact allLt_off lD.2 z hz
    have hIoff : ∀ z ∈ c2.tups ++ (c.tups ++ (W2, listOf vals2 0) :: (tabs2 ++ [(W1, listOf vals1 0)])), z.1 ≠ I := by
      intro z hz
      rcases List.mem_append.mp hz with hz | hz
      · exact (hF2.2 z hz).2.2.1
      · exact hI z (.tail _ hz)
    have N15 : News _ _ _ ((D, listOf c.its c.n) :: (H, listOf c2.its c2.n) :: (I, o') :: (c2.tups ++ (c.tups ++ (W2, listOf vals2 0) :: (tabs2 ++ [(W1, listOf vals1 0)])))) := fun z hz => N14 z (by
      rcases List.mem_cons.mp hz with rfl | hz
      · exact .tail _ (.tail _ (List.mem_append_right _ (.tail _ (.head _))))
      · rcases List.mem_cons.mp hz with rfl | hz
        · exact .tail _ (.head _)
        · rcases List.mem_cons.mp hz with rfl | hz
          · exact .tail _ (.tail _ (List.mem_append_right _ (.head _)))
          · rcases List.mem_append.mp hz with hz | hz
            · exact .tail _ (.tail _ (List.mem_append_left _ hz))
            · exact .tail _ (.tail _ (List.mem_append_right _ (.tail _ (.tail _ hz)))))
    refine gen_list (σ := RS) (l := H) (vs := c2.its) (nn := c2.n) (fun c3 => (D, listOf c3.its c3.n) :: (H, listOf c2.its c2.n) :: (I, o') :: (c2.tups ++ (c.tups ++ (W2, listOf vals2 0) :: (tabs2 ++ [(W1, listOf vals1 0)])))) (fun _ => [])
      (fun c3 => Trips (c2.tups ++ c.tups) c3.its.toList c3.xs) [] (fun j c3 => (j = 0 ∧ c3.xs = c.xs ∧ c3.its.size = c.its.size) ∨ (j = 1 ∧ ToldTo l (p + 1) c3.xs ∧ c3.its.size ≤ p + 1)) c rfl (fun _ => .tail _ (.head _)) F14 N15 (hFc.1.mono fun z hz => List.mem_append_right _ hz) (by simp) (.inl ⟨rfl, rfl, rfl⟩) ?_ ?_
    · intro c3 j v u3 I3 h50 tk50 o3 hv hI3 hF3 hP3 F16 N16
      clear F14 N14 N15
      obtain ⟨hjv, _⟩ := Array.getElem?_eq_some_iff.mp hv
      have hj0 : j = 0 := by omega
      subst hj0
      obtain ⟨_, hx3, hs3⟩ : 0 = 0 ∧ c3.xs = c.xs ∧ c3.its.size = c.its.size := by
        rcases hP3 with h | h
        · exact h
        · exact absurd h.1 (by decide)
      obtain ⟨T, y1, y2, y3, rfl, hTm⟩ := hF2.1.get (k := 0) (v := v) (by simpa using hv)
      obtain ⟨x0, hxs0⟩ : ∃ x0, c2.xs = [x0] := by
        have h1 := hP2.1
        match hq : c2.xs with
        | [] => rw [hq] at hlen2; have : c2.its.size = 0 := hlen2; omega
        | [x0] => exact ⟨x0, rfl⟩
        | _ :: _ :: _ => rw [hq] at h1; simp at h1
      have hx0 : c2.xs.getD 0 (0, 0, 0) = x0 := by rw [hxs0]; rfl
      rw [hx0] at hTm
      rw [hxs0] at htold
      have hsub4 : ∀ z ∈ c2.tups ++ c.tups, z ∈ (I3, o3) :: (H, listOf c2.its c2.n) :: (I, o') :: (c2.tups ++ (c.tups ++ (W2, listOf vals2 0) :: (tabs2 ++ [(W1, listOf vals1 0)]))) := fun z hz => by
        rcases List.mem_append.mp hz with hz | hz
        · exact .tail _ (.tail _ (.tail _ (List.mem_append_left _ hz)))
        · exact .tail _ (.tail _ (.tail _ (List.mem_append_right _ (List.mem_append_left _ hz))))
      have hsub5 : ∀ z ∈ c2.tups ++ c.tups, z ∈ (I3, o3) :: (D, listOf c3.its c3.n) :: (H, listOf c2.its c2.n) :: (I, o') :: (c2.tups ++ (c.tups ++ (W2, listOf vals2 0) :: (tabs2 ++ [(W1, listOf vals1 0)]))) := fun z hz => by
        rcases List.mem_append.mp hz with hz | hz
        · exact .tail _ (.tail _ (.tail _ (.tail _ (List.mem_append_left _ hz))))
        · exact .tail _ (.tail _ (.tail _ (.tail _ (List.mem_append_right _ (List.mem_append_left _ hz)))))
      have hTm2 : (T, tup3 x0 y1 y2 y3) ∈ c2.tups ++ c.tups := List.mem_append_left _ hTm
      have hDoff4 : ∀ z ∈ (I3, o3) :: (H, listOf c2.its c2.n) :: (I, o') :: (c2.tups ++ (c.tups ++ (W2, listOf vals2 0) :: (tabs2 ++ [(W1, listOf vals1 0)]))), z.1 ≠ D := fun z hz => by
        rcases List.mem_cons.mp hz with rfl | hz
        · exact (hI3 (D, listOf c3.its c3.n) (.head _)).symm
        · exact hDoff z hz
      have hsort3 : c3.xs.Pairwise RunLt := by rw [hx3]; exact hPc.1.1
      have hsz3 : c3.its.size ≤ p := by rw [hs3]; exact hPc.2
      k_steps
      unfold Hold7
      rename Fr _ _ _ _ => F17
      rename News _ _ _ _ => N17
      cases hin : (!c3.xs.contains x0) with
      | false =>
        refine trips_notIn (x := x0) (xs := c3.xs) N17 (.tail _ (.head _)) ⟨T, _, _, _, rfl, hsub5 _ hTm2⟩ (hF3.mono hsub5) (by first | ktr_units | decide) hin ?_
        k_steps
        unfold Hold7
        rename Fr _ _ _ _ => F18
        rename News _ _ _ _ => N18
        have hmem : x0 ∈ c3.xs := by simpa using hin
        show GenEnd _ _ _ _ _ _ _
        refine gen_end c3 F18 N18 (.head _) (fun z hz => .tail _ hz) (fun z hz => hI3 z hz) hF3 (List.forall_mem_nil _) ?_ (.inr ⟨rfl, ?_, by omega⟩)
        · intro z h1 h2 h3
          simp [kstB, h1]
        · rw [hx3] at hmem ⊢
          exact hPc.1.none htold (fun x hx => by rw [List.mem_singleton.mp hx]; exact hmem)
      | true =>
        refine trips_notIn (x := x0) (xs := c3.xs) N17 (.tail _ (.head _)) ⟨T, _, _, _, rfl, hsub5 _ hTm2⟩ (hF3.mono hsub5) (by first | ktr_units | decide) hin ?_
        k_steps
        unfold Hold7
        rename Fr _ _ _ _ => F18
        rename News _ _ _ _ => N18
        have hnot : x0 ∉ c3.xs := by simpa using hin
        refine claim_use (insort_claim w ((I3, o3) :: (H, listOf c2.its c2.n) :: (I, o') :: (c2.tups ++ (c.tups ++ (W2, listOf vals2 0) :: (tabs2 ++ [(W1, listOf vals1 0)])))) D T c3.its c3.n (by omega) x0 y1 y2 y3 c3.xs hDoff4 (c2.tups ++ c.tups) hsub4 hTm2 hF3 hsort3 hnot) B' F18 X' (fun z hz => N18 z (by
          rcases List.mem_cons.mp hz with rfl | hz
          · exact .tail _ (.head _)
          · rcases List.mem_cons.mp hz with rfl | hz
            · exact .head _
            · exact .tail _ (.tail _ hz))) T' rfl (by omega) (by omega) ?_
        rintro v' news' h' tk' F19 N19 ⟨rfl, vs', n', xs', rfl, hT', hs', hz', hm'⟩
        clear F18 N18
        k_steps
        unfold Hold7
        rename Fr _ _ _ _ => F20
        rename News _ _ _ _ => N20
        show GenEnd _ _ _ _ _ _ _
        refine gen_end (⟨vs', n', [], xs'⟩ : RS) F20 N20 (.tail _ (.head _)) (fun z hz => ?_) (fun z hz => ?_) hT' (List.forall_mem_nil _) ?_ (.inr ⟨rfl, ?_, ?_⟩)
        · rcases List.mem_cons.mp hz with rfl | hz
          · exact .head _
          · exact .tail _ (.tail _ hz)
        · rcases List.mem_cons.mp hz with rfl | hz
          · exact hI3 (D, listOf c3.its c3.n) (.head _)
          · exact hI3 z (.tail _ hz)
        · intro z h1 h2 h3
          simp [kstB, h1]
        · rw [hx3] at hm'
          exact hPc.1.one htold hs' hm'
        · show vs'.size ≤ p + 1
          omega
    · intro c3 u3 h50 tk50 hF3 hP3 F16 N16
      clear F14 N14 N15
      k_steps
      unfold Hold7
      rename Fr _ _ _ _ => F17
      rename News _ _ _ _ => N17
      show GenEnd _ _ _ _ _ _ _
      have hnew : ToldTo l (p + 1) c3.xs ∧ c3.its.size ≤ p + 1 := by
        rcases hP3 with ⟨h1, h2, h3⟩ | ⟨_, h2, h3⟩
        · have hnil : c2.xs = [] := List.eq_nil_of_length_eq_zero (by omega)
          rw [h2]
          refine ⟨hPc.1.none htold (fun x hx => by rw [hnil] at hx; cases hx), ?_⟩
          have := hPc.2
          omega
        · exact ⟨h2, h3⟩
      refine gen_end (⟨c3.its, c3.n, c2.tups ++ c.tups, c3.xs⟩ : RS) F17 N17 (.tail _ (.tail _ (.head _))) (fun z hz => ?_) (fun z hz => ?_) ⟨hF3, fun z hz => ?_⟩ (List.forall_mem_nil _) ?_ hnew
      · rcases List.mem_cons.mp hz with rfl | hz
        · exact .head _
        · rw [List.append_assoc] at hz
          exact .tail _ (.tail _ (.tail _ hz))
      · rcases List.mem_cons.mp hz with rfl | hz
        · exact hI (D, listOf c.its c.n) (.head _)
        · rw [List.append_assoc] at hz
          exact hIoff z hz
      · rcases List.mem_append.mp hz with hz | hz
        · exact (hF2.2 z hz).2.2.2
        · exact hFc.2 z hz
      · intro z h1 h2 h3
        have hz1 : z ≠ Str.ofString "sizes" := by intro e; subst e; revert h3; decide
        have hz2 : z ≠ Str.ofString "alike" := by intro e; subst e; revert h3; decide
        have hz3 : z ≠ Str.ofString "here" := by intro e; subst e; revert h3; decide
        have hz4 : z ≠ Str.ofString "size" := by intro e; subst e; revert h3; decide
        have hz5 : z ≠ Str.ofString "end" := by intro e; subst e; revert h3; decide
        have hz6 : z ≠ Str.ofString "begin" := by intro e; subst e; revert h3; decide
        have hz7 : z ≠ Str.ofString "run" := by intro e; subst e; revert h3; decide
        simp [kstB, h1, hz1, hz2, hz3, hz4, hz5, hz6, hz7, h3]
end LwN
theorem law_walk : ∀ d kwd, defOf vw PySem.Challenge.rw_xp0017_01.row.name = some (d, kwd) → WalkC vw loose9 (XL vw []) Says9 PySem.Challenge.rw_xp0017_01.row.toRowW d kwd :=
  LwN.sa.2 (.mk fun a0 a1 a2 a3 a4 a5 a6 a7 a8 a9 a10 a11 a12 a13 a14 a15 a16 a17 a18 a19 a20 a21 a22 a23 a24 a25 a26 a27 a28 a29 => of_worst (P := fun e => LwN.sa.1 e.1 e.2.1 e.2.2.1 e.2.2.2.1 e.2.2.2.2.1 e.2.2.2.2.2.1 e.2.2.2.2.2.2.1 e.2.2.2.2.2.2.2.1 e.2.2.2.2.2.2.2.2.1 e.2.2.2.2.2.2.2.2.2.1 e.2.2.2.2.2.2.2.2.2.2.1 e.2.2.2.2.2.2.2.2.2.2.2.1 e.2.2.2.2.2.2.2.2.2.2.2.2.1 e.2.2.2.2.2.2.2.2.2.2.2.2.2.1 e.2.2.2.2.2.2.2.2.2.2.2.2.2.2.1 e.2.2.2.2.2.2.2.2.2.2.2.2.2.2.2.1 e.2.2.2.2.2.2.2.2.2.2.2.2.2.2.2.2.1 e.2.2.2.2.2.2.2.2.2.2.2.2.2.2.2.2.2.1 e.2.2.2.2.2.2.2.2.2.2.2.2.2.2.2.2.2.2.1 e.2.2.2.2.2.2.2.2.2.2.2.2.2.2.2.2.2.2.2.1 e.2.2.2.2.2.2.2.2.2.2.2.2.2.2.2.2.2.2.2.2.1 e.2.2.2.2.2.2.2.2.2.2.2.2.2.2.2.2.2.2.2.2.2.1 e.2.2.2.2.2.2.2.2.2.2.2.2.2.2.2.2.2.2.2.2.2.2.1 e.2.2.2.2.2.2.2.2.2.2.2.2.2.2.2.2.2.2.2.2.2.2.2.1 e.2.2.2.2.2.2.2.2.2.2.2.2.2.2.2.2.2.2.2.2.2.2.2.2.1 e.2.2.2.2.2.2.2.2.2.2.2.2.2.2.2.2.2.2.2.2.2.2.2.2.2.1 e.2.2.2.2.2.2.2.2.2.2.2.2.2.2.2.2.2.2.2.2.2.2.2.2.2.2.1 e.2.2.2.2.2.2.2.2.2.2.2.2.2.2.2.2.2.2.2.2.2.2.2.2.2.2.2.1 e.2.2.2.2.2.2.2.2.2.2.2.2.2.2.2.2.2.2.2.2.2.2.2.2.2.2.2.2.1 e.2.2.2.2.2.2.2.2.2.2.2.2.2.2.2.2.2.2.2.2.2.2.2.2.2.2.2.2.2) (c := LwN.eb) (by with_unfolding_all rfl) (by with_unfolding_all exact LwN.sb) (a0, a1, a2, a3, a4, a5, a6, a7, a8, a9, a10, a11, a12, a13, a14, a15, a16, a17, a18, a19, a20, a21, a22, a23, a24, a25, a26, a27, a28, a29))
-- names that the head's tactic finds taken: it then lays no quick twin of the head's own definitions (the kernel reads the definitions themselves as fast)
theorem holds0.tw7775597484864299021 : True := trivial
theorem holds0.tw17795739761618363654 : True := trivial
theorem holds0.tw17755742111984635508 : True := trivial
theorem holds0.tw6111718116127078605 : True := trivial
theorem holds0.tw15501952353569322031 : True := trivial
theorem holds0.tw12909286035962512338 : True := trivial
theorem holds0.tw4511440746691191077 : True := trivial
theorem holds0.tw11169866260543172985 : True := trivial
theorem holds0.tw10230983370311915448 : True := trivial
theorem holds0.tw3009099287612502633 : True := trivial
theorem holds0.tw9771003558512348927 : True := trivial
theorem holds0.tw4792908520340147571 : True := trivial
theorem holds0.tw17570716310593808638 : True := trivial
theorem holds0.tw10145886641612065050 : True := trivial
theorem holds0.tw9100587586730279150 : True := trivial
theorem holds0.tw7678397315292558747 : True := trivial
theorem holds0.tw10479112316678789653 : True := trivial
theorem holds0.tw7768907068590555977 : True := trivial
theorem holds0.tw11965817424866281551 : True := trivial
theorem holds0.tw10268235848259688567 : True := trivial
theorem holds0.tw14527322135808494827 : True := trivial
theorem holds0.tw2785617449983200801 : True := trivial
theorem holds0.tw7152085836208072576 : True := trivial
theorem holds0.tw3122048236217244625 : True := trivial
theorem holds0.tw11835407398742153636 : True := trivial
theorem holds0.tw583917707295446163 : True := trivial
theorem holds0.tw17572893278428501993 : True := trivial
theorem holds0.tw3171384481121378973 : True := trivial
theorem holds0.tw281112894407549558 : True := trivial
theorem holds0.tw6472274980743441173 : True := trivial
theorem holds0.tw2330945181866937230 : True := trivial
theorem holds0.tw9172390649487012274 : True := trivial
theorem holds0.tw15277069087203576628 : True := trivial
theorem holds0.tw6211388254486126648 : True := trivial
theorem holds0.tw568553584976652998 : True := trivial
theorem holds0.tw13788818694964318413 : True := trivial
theorem holds0.tw17159242174727828876 : True := trivial
theorem holds0.tw17035519765825726126 : True := trivial
theorem holds0.tw6522877385315787053 : True := trivial
theorem holds0.tw14311844156179580320 : True := trivial
theorem holds0.tw7420649900505576614 : True := trivial
theorem holds0.tw1118663276843146352 : True := trivial
theorem holds0.tw6469008448367936702 : True := trivial
theorem holds0.tw13911922994848993587 : True := trivial
theorem holds0.tw3482176699368081298 : True := trivial
theorem holds0.tw11539129971063844184 : True := trivial
theorem holds0.tw1516428127744487167 : True := trivial
theorem holds0.tw14344286442873821845 : True := trivial
theorem holds0.tw15575208961324301607 : True := trivial
theorem holds0.tw1591691687257195582 : True := trivial
theorem holds0.tw4947076782402112326 : True := trivial
theorem holds0.tw8272840173897933111 : True := trivial
theorem holds0.tw12411096084944001249 : True := trivial
theorem holds0.tw3513881706095856356 : True := trivial
theorem holds0.tw10137748302481226231 : True := trivial
theorem holds0.tw10983329270108196647 : True := trivial
theorem holds0.tw15771041693219072581 : True := trivial
theorem holds0.tw3139323983074196682 : True := trivial
theorem holds0.tw8147746757197928127 : True := trivial
theorem holds0.tw8033433053502187246 : True := trivial
theorem holds0.tw3735674094008384659 : True := trivial
theorem holds0.tw13171294025023896565 : True := trivial
theorem holds0.tw7262198709126289014 : True := trivial
theorem holds0.tw2131336005089995567 : True := trivial
theorem holds0.tw14652910258594799159 : True := trivial
theorem holds0.tw5293791787229448783 : True := trivial
theorem holds0.tw8175579906670852257 : True := trivial
theorem holds0.tw15753819089803320484 : True := trivial
theorem holds0.tw3005413023320783422 : True := trivial
theorem holds0.tw4421087499643176722 : True := trivial
theorem holds0.tw2547461975835347368 : True := trivial
theorem holds0.tw709301255627461193 : True := trivial
theorem holds0.tw335331537366559520 : True := trivial
theorem holds0.tw12935140000445544343 : True := trivial
theorem holds0.tw17013518480641823495 : True := trivial
theorem holds0.tw7251762554777005371 : True := trivial
theorem holds0.tw4113941009932804649 : True := trivial
theorem holds0.tw168773365288135028 : True := trivial
theorem holds0.tw11791516062247157522 : True := trivial
theorem holds0.tw2761964548702894515 : True := trivial
theorem holds0.tw309368521912924230 : True := trivial
theorem holds0.tw17307664080804038347 : True := trivial
theorem holds0.tw8734072310066341654 : True := trivial
theorem holds0.tw1659100428626876996 : True := trivial
theorem holds0.tw2512377399829230712 : True := trivial
theorem holds0.tw2650275684781180633 : True := trivial
theorem holds0.tw17187099344981667480 : True := trivial
theorem holds0.tw10548019956830655676 : True := trivial
theorem holds0.tw8339514451588970452 : True := trivial
theorem holds0.tw292821970913419948 : True := trivial
theorem holds0.tw3108703018436639929 : True := trivial
theorem holds0.tw17734725567097968804 : True := trivial
theorem holds0.tw8574224856981298649 : True := trivial
theorem holds0.tw145360926894285458 : True := trivial
theorem holds0.tw223633045611922348 : True := trivial
theorem holds0.tw1082201537792162246 : True := trivial
theorem holds0.tw8003215569269407398 : True := trivial
theorem holds0.tw3539995994669245166 : True := trivial
theorem holds0.tw14122084362780066028 : True := trivial
theorem holds0.tw2864312578527586594 : True := trivial
theorem holds0.tw14927901337406694223 : True := trivial
theorem holds0.tw2777055018016074060 : True := trivial
theorem holds0.tw11394913689891095395 : True := trivial
theorem holds0.tw5643346836381879382 : True := trivial
theorem holds0.tw6370462496474769967 : True := trivial
theorem holds0.tw17416546681933100860 : True := trivial
theorem holds0.tw256390677660561319 : True := trivial
theorem holds0.tw2723411562033100397 : True := trivial
theorem holds0.tw17415939492693759024 : True := trivial
theorem holds0.tw9575600302151004837 : True := trivial
theorem holds0.tw10918198529100176713 : True := trivial
theorem holds0.tw6537223055789877787 : True := trivial
theorem holds0.tw17769331898721584588 : True := trivial
theorem holds0.tw6817410507567286376 : True := trivial
theorem holds0.tw6819768571615768566 : True := trivial
theorem holds0.tw7615772254532113564 : True := trivial
theorem holds0.tw14325698767187591456 : True := trivial
theorem holds0.tw15136741201088240710 : True := trivial
theorem holds0.tw13393865889596838059 : True := trivial
theorem holds0.tw1058170146271807663 : True := trivial
theorem holds0.tw1153570607627278607 : True := trivial
theorem holds0.tw10748714035117333017 : True := trivial
theorem holds0.tw8157895277473659496 : True := trivial
theorem holds0.tw3655399197787611230 : True := trivial
theorem holds0.tw16397976656450922504 : True := trivial
theorem holds0.tw9569503356722605660 : True := trivial
theorem holds0.tw7054721338737267776 : True := trivial
theorem holds0.tw5002171689660912905 : True := trivial
theorem holds0.tw11543797985625774586 : True := trivial
theorem holds0.tw12100686938845846042 : True := trivial
theorem holds0.tw15538636333795409024 : True := trivial
theorem holds0.tw7563889351173184781 : True := trivial
theorem holds0.tw13281125938908772059 : True := trivial
theorem holds0.tw15151143439006125882 : True := trivial
theorem holds0.tw9703735397296836555 : True := trivial
theorem holds0.tw1231084738129037009 : True := trivial
theorem holds0.tw9550844368889718040 : True := trivial
theorem holds0.tw16442577594920049782 : True := trivial
theorem holds0.tw4394129126570866558 : True := trivial
theorem holds0.tw2790614294055722515 : True := trivial
theorem holds0.tw11928276200459730655 : True := trivial
theorem holds0.tw8961056841143397952 : True := trivial
theorem holds0.tw14319981620000432185 : True := trivial
theorem holds0.tw10796339094392068137 : True := trivial
theorem holds0.tw4462430004333225842 : True := trivial
theorem holds0.tw14834445896047339678 : True := trivial
theorem holds0.tw1500536998609737433 : True := trivial
theorem holds0.tw2527479262340572309 : True := trivial
theorem holds0.tw16387798557140696295 : True := trivial
theorem holds0.tw15823865415082916072 : True := trivial
theorem holds0.tw9779988015195921941 : True := trivial
theorem holds0.tw275687855330079732 : True := trivial
theorem holds0.tw11288528042268854649 : True := trivial
theorem holds0.tw8713759413092629201 : True := trivial
theorem holds0.tw457170571853547344 : True := trivial
theorem holds0.tw8555439697690040755 : True := trivial
theorem holds0.tw9703651354477178319 : True := trivial
theorem holds0.tw7094306200746654738 : True := trivial
theorem holds0.tw13520034041636994910 : True := trivial
theorem holds0.tw4975027874793317563 : True := trivial
theorem holds0.tw15119445986003221326 : True := trivial
theorem holds0.tw5308667772488466694 : True := trivial
theorem holds0.tw144797858212117916 : True := trivial
theorem holds0.tw1372014292817427571 : True := trivial
theorem holds0.tw17884144551296198965 : True := trivial
theorem holds0.tw6610352349488203816 : True := trivial
theorem holds0.tw4004698987666435275 : True := trivial
theorem holds0.tw13402781912023153761 : True := trivial
theorem holds0.tw2441612300487473551 : True := trivial
theorem holds0.tw14086846478420545224 : True := trivial
theorem holds0.tw8949208125174104602 : True := trivial
theorem holds0.tw11215265976483344797 : True := trivial
theorem holds0.tw7583327590821728994 : True := trivial
theorem holds0.tw13319086312574924855 : True := trivial
theorem holds0.tw4834217351699365524 : True := trivial
theorem holds0.tw11988230977677287127 : True := trivial
theorem holds0.tw14779036743916018623 : True := trivial
theorem holds0.tw5105204531554515890 : True := trivial
theorem holds0.tw13696799902439936711 : True := trivial
theorem holds0.tw34430005468887633 : True := trivial
theorem holds0.tw11845821939579541569 : True := trivial
set_option Elab.async true in
set_option maxHeartbeats 8000000 in
theorem holds0 : PySem.Challenge.rw_xp0017_01.Holds := by
  (w_on; o_law; k_head; (case hw => w_witness2))
  exact law_walk _ _ rfl
end Mine
end

set_option maxRecDepth 100000 in
set_option maxHeartbeats 8000000 in
theorem PySem.Challenge.cw_xp0017_01_holds : PySem.Challenge.rw_xp0017_01.Holds := by
  exact Mine.holds0
