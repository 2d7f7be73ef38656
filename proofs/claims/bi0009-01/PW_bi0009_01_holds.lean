import PyProof.Rows.All
import Wide.All
import OpenK.AllK
import Wide.FinOn
import Lean
import PySem.Challenge.RW_bi0009_01
set_option Elab.async false

/-! part Lg -/
section
open PySem PySem.W PyProof.Rows
set_option maxRecDepth 100000
set_option maxHeartbeats 4000000

/-! A logic for clean stacks: no code that waits on the stack lends out a bytearray's bytes. -/
namespace Mine

def lends (id : String) : Bool :=
  id == "bytearray.__contains__" || id == "bytearray.__mod__" || id == "bytearray.__rmod__" || id == "_struct.pack_into.held" || id == "bytearray.find.held" || Builtin.Bytes.decodersThatHold.contains id
def okC : Code → Bool
  | .builtin id _ => !lends id
  | _ => true
def CleanL (l : List (Code × Pos)) : Prop := ∀ x ∈ l, okC x.1 = true

def wpC {α : Type} (M : Model) (A : Around) (t : Sem α) (Q : α → Shared → Prop) (E : Value → Shared → Prop) (s : Shared) : Prop :=
  ∀ Γ p, okC Γ.code = true → CleanL Γ.below → Γ.In A → Sem.wp M Γ t (fun a _ s' => Q a s') (fun e _ s' => E e s') p s
def codeC (M : Model) (A : Around) (c : Code) (R : Result → Shared → Prop) (s : Shared) : Prop :=
  ∀ Γ p, Γ.code = c → CleanL Γ.below → Γ.Below A → wpCode M Γ R p s

section
variable {α β : Type} {M : Model} {A : Around} {E : Value → Shared → Prop} {s : Shared}
theorem wpC_of {t : Sem α} {Q : α → Shared → Prop} (h : wpAny M A t Q E s) : wpC M A t Q E s := fun Γ p _ _ hΓ => h Γ p hΓ
theorem codeC_of {c : Code} {R : Result → Shared → Prop} (h : codeAny M A c R s) : codeC M A c R s := fun Γ p hc _ hΓ => h Γ p hc hΓ
theorem wpC_pure {a : α} {Q : α → Shared → Prop} (h : Q a s) : wpC M A (pure a) Q E s := fun _ _ _ _ _ => h
theorem wpC_mono {t : Sem α} {Q Q' : α → Shared → Prop} {E' : Value → Shared → Prop} (h : wpC M A t Q E s)
    (hQ : ∀ a s, Q a s → Q' a s) (hE : ∀ e s, E e s → E' e s) : wpC M A t Q' E' s :=
  fun Γ p hc hb hΓ => Sem.wp_mono M Γ t (fun a _ s => hQ a s) (fun e _ s => hE e s) p s (h Γ p hc hb hΓ)
theorem codeC_mono {c : Code} {R R' : Result → Shared → Prop} (h : codeC M A c R s) (hR : ∀ r s, R r s → R' r s) : codeC M A c R' s :=
  fun Γ p hc hb hΓ => wpCode_mono hR (h Γ p hc hb hΓ)
theorem wpC_bind {m : Sem α} {f : α → Sem β} {Q : β → Shared → Prop} (h : wpC M A m (fun a s' => wpC M A (f a) Q E s') E s) :
    wpC M A (m >>= f) Q E s := fun Γ p hc hb hΓ => by
  rw [Sem.wp_bind']
  exact Sem.wp_mono M Γ m (fun a p' s' h' => h' Γ p' hc hb hΓ) (fun _ _ _ h' => h') p s (h Γ p hc hb hΓ)
theorem wpC_holding {vs : List Value} {m : Sem α} {Q : α → Shared → Prop} (h : wpC M A m Q E s) : wpC M A (holding vs m) Q E s :=
  fun Γ p hc hb hΓ => by rw [Sem.wp_holding]; exact h Γ p hc hb hΓ
theorem wpC_onRaise {m : Sem α} {k : Value → Sem Unit} {Q : α → Shared → Prop}
    (h : wpC M A m Q (fun e s' => wpC M A (k e) (fun _ s'' => E e s'') E s') s) : wpC M A (m.onRaise k) Q E s := fun Γ p hc hb hΓ => by
  rw [Sem.wp_onRaise]
  exact Sem.wp_mono M Γ m (fun _ _ _ h' => h') (fun e p' s' h' => h' Γ p' hc hb hΓ) p s (h Γ p hc hb hΓ)
/-- a step of the library's, then mine -/
theorem wpC_step {m : Sem α} {f : α → Sem β} {Q : β → Shared → Prop} (h : wpAny M A m (fun a s' => wpC M A (f a) Q E s') E s) : wpC M A (m >>= f) Q E s := wpC_bind (wpC_of h)
theorem wpC_eq {t : Sem α} {a : α} {Q : α → Shared → Prop} (e : t = pure a) (h : Q a s) : wpC M A t Q E s := by subst e; exact wpC_pure h

theorem wpC_stack {Q : List (Code × Pos) → Shared → Prop} (h : ∀ st, CleanL st → Q st s) : wpC M A stack Q E s := fun Γ p hc hb _ => by
  show Q ((Γ.code, p) :: Γ.below) s
  refine h _ fun x hx => ?_
  rcases List.mem_cons.mp hx with rfl | hx
  · exact hc
  · exact hb x hx
theorem wpC_runValue {c : Code} {Q : Value → Shared → Prop}
    (hc : codeC M A c (fun r s' => match r with | .ok (.ret v) => Q v s' | .ok _ => False | .error e => E e s') s) : wpC M A (runValue c) Q E s := fun Γ p hcl hb hΓ => by
  rw [Sem.wp_runValue]
  refine hc _ p rfl (fun x hx => ?_) (hΓ.enter c none p (by intro x; cases x))
  rcases List.mem_cons.mp hx with rfl | hx
  · exact hcl
  · exact hb x hx
theorem wpC_call {f : Value} {pos : List Value} {kw : List (Str × Value)} {Q : Value → Shared → Prop}
    (hc : codeC M A (.call f ⟨pos, kw⟩) (fun r s' => match r with | .ok (.ret v) => Q v s' | .ok _ => False | .error e => E e s') s) : wpC M A (call f pos kw) Q E s := wpC_runValue hc
theorem codeC_of_tree {c : Code} {R : Result → Shared → Prop} (hok : okC c = true)
    (h : wpC M (A.under c) (M.den c) (fun fin s' => match fin with | .done f => R (.ok f) s' | .again c' => c'.quiet = true ∧ codeC M A c' R s')
      (fun e s' => R (.error e) s') s) : codeC M A c R s := fun Γ p hc hb hΓ => by
  rw [wpCode_iff_wp, hc]
  refine Sem.wp_mono M Γ _ (fun fin p' s' h' => ?_) (fun _ _ _ h' => h') p s (h Γ p (hc ▸ hok) hb (hc ▸ hΓ.in))
  cases fin with
  | done f => exact h'
  | again c' => exact ⟨h'.1, h'.2 (Γ.goto c') p' rfl hb (hΓ.goto c')⟩
/-- a callee's call, kept off the collector's eye -/
theorem wpC_keep {t : Sem Value} {vs : List Value} {Q : Value → Shared → Prop} (h : wpC M A t Q E s) : wpC M A (t.keep vs) Q E s :=
  fun Γ p hc hb hΓ => by rw [Sem.wp_keep]; exact h Γ p hc hb hΓ
end

section
variable {prog : Program} {w : World} {A : Around} {E : Value → Shared → Prop} {s : Shared} {env : Env}
theorem wpC_execs_cons {st : Stmt} {rest : List Stmt} {Q : Flow → Shared → Prop}
    (h : wpC (model prog w) A (exec st env) (fun f s' => match f with | .next => wpC (model prog w) A (execs rest env) Q E s' | f => Q f s') E s) :
    wpC (model prog w) A (execs (st :: rest) env) Q E s := by
  rw [execs_cons]
  refine wpC_bind (wpC_mono h (fun f s' h' => ?_) fun _ _ x => x)
  cases f <;> first | exact h' | exact wpC_pure h'
theorem wpC_execs_nil {Q : Flow → Shared → Prop} (h : Q .next s) : wpC (model prog w) A (execs [] env) Q E s := wpC_of (wpAny_execs_nil h)

theorem codeC_func {R : Result → Shared → Prop} {body : List Stmt}
    (h : wpC (model prog w) (A.deeper env) (execs body env) (fun f s' => R (.ok (.ret (match f with | .ret v => v | _ => .none))) s') (fun _ _ => False) s) :
    codeC (model prog w) A (.func body env) R s := by
  refine codeC_of_tree rfl ?_
  show wpC _ (A.deeper env) (do point; match ← (execs body env).onRaise (leaving env) with | .ret v => ret v | _ => ret .none) _ _ s
  refine wpC_step (wpAny_point (wpC_bind (wpC_onRaise (wpC_mono h (fun f s' h' => ?_) fun _ _ h' => h'.elim))))
  cases f <;> exact wpC_pure h'

theorem codeC_call_function {R : Result → Shared → Prop} {a : Addr} {args : Args} {o : Obj} {fd : FuncData} {body : List Stmt} (hroom : A.depth < recursionLimit)
    (ho : s.heap.get? a = some o)
    (hd' : o.data = .func fd) (hco : fd.scope.isCoroutine = false) (hgen : fd.scope.isGenerator = false) (hbody : fd.body = .stmts body) (hcd : s.heap.CodeRec fd.code fd.qualname)
    (h : wpAny (model prog w) A.in1 (bindArgs fd args) (fun binds s₁ =>
      wpAny (model prog w) A.in1 (newFunctionEnv fd.scope fd.globals fd.closure binds (fd.qualname ++ ".<locals>.") (some a) fd.code none fd.builtins)
        (fun env s₂ => s₂.heap.NoLimit ∧ codeC (model prog w) A (.func body env) R s₂) (fun e s' => R (.error e) s') s₁) (fun e s' => R (.error e) s') s) :
    codeC (model prog w) A (.call (.ref a) args) R s := by
  refine codeC_of_tree rfl ?_
  show wpC _ A.in1 (callAny (.ref a) args) _ _ s
  simp only [callAny]
  refine wpC_step (wpAny_load ho ?_)
  obtain ⟨c, oc, vs, tq, hc, hoc, hdc, hq⟩ := hcd
  simp only [hd', callFunction, hco, hgen, hbody, hc]
  rw [hc] at h
  refine wpC_step (m := field (.ref c) 1) (wpAny_field hoc hdc hq (wpC_step (wpAny_pure ?_)))
  exact wpC_step (wpAny_mono h (fun binds s₁ h₁ => wpC_step (wpAny_mono h₁ (fun env s₂ h₂ => wpC_step (wpAny_enterFrame h₂.1 hroom
    (wpC_pure (And.intro rfl h₂.2)))) fun _ _ h' => h')) fun _ _ h' => h')
theorem codeC_call_def {R : Result → Shared → Prop} {a : Addr} {o : Obj} {fd : FuncData} {body : List Stmt} {args : Args} {binds : List (Str × Value)}
    (hroom : A.depth < recursionLimit) (ho : s.heap.get? a = some o) (hdata : o.data = .func fd) (hlim : s.heap.NoLimit) (hcd : s.heap.CodeRec fd.code fd.qualname)
    (hbody : fd.body = .stmts body) (hbind : BindsTo s fd args binds)
    (hcell : ∀ x ∈ fd.scope.names, x.2 ≠ .cell) (hloc : ∀ x ∈ binds, fd.scope.names.lookup x.1 = some .local)
    (h : ∀ h₁, Fr s.heap s.heap.objs.size h₁ (fun x => binds.reverse.lookup x) →
      wpC (model prog w) (A.deeper (callEnv fd s.heap.objs.size a)) (execs body (callEnv fd s.heap.objs.size a)) (fun f s' => R (.ok (.ret (match f with | .ret v => v | _ => .none))) s')
        (fun _ _ => False) { s with heap := h₁, toks := s.toks + binds.length })
    (hco : fd.scope.isCoroutine = false := by rfl) (hgen : fd.scope.isGenerator = false := by rfl) (hk : fd.scope.kind = .function := by rfl) :
    codeC (model prog w) A (.call (.ref a) args) R s := by
  refine codeC_call_function hroom ho hdata hco hgen hbody hcd (hbind _ _ _ _ ?_)
  refine wpAny_newFunctionEnv hcell hloc (fun h₀ hns₀ hsb₀ => ⟨hlim.fresh _ hsb₀, codeC_func (h h₀ ⟨hns₀, fun b o e => ?_, Nat.le_refl _⟩)⟩) hk
  exact hsb₀.extBut b o (Nat.ne_of_lt (Heap.lt_size e)) (Heap.get?_push_of_some _ e)
end
end Mine
end

/-! part Hd2 -/
section
open PySem PySem.W PyProof.Rows PySem.Calls
set_option maxRecDepth 100000
set_option maxHeartbeats 4000000
namespace Mine

theorem caller_clean : okC (⟨.builtin "claim.caller" {}, none, none, [], none⟩ : Ctx).code = true := by decide +kernel
theorem nil_clean : CleanL ([] : List (Code × Pos)) := fun _ h => nomatch h

/-- the claim's own thread, from a proof about clean stacks alone -/
theorem thread_ends_C {prog : Program} {w : World} {t : Sem Fin} {s : Shared} {R : Result → Shared → Prop} (hreg : s.asleep)
    (h : wpC (model prog w) callerA t (fun fin s' => ∃ f, fin = .done f ∧ (R (.ok f) s' ∧ leftWithCleanup s'.gens = false)) (fun e s' => R (.error e) s' ∧ leftWithCleanup s'.gens = false) s) :
    ∃ n r s' s'', runN (denote table) prog w n s ⟨t, .builtin "claim.caller" {}, default, []⟩ = .halted (outcomeOf r) s' ∧
      schedN (denote table) prog w n (.single s ⟨t, .builtin "claim.caller" {}, default, []⟩) = .halted (outcomeOf r) s' ∧ s'.forget = s''.forget ∧ R r s'' := by
  have hw : Sem.wp (model prog w) ⟨.builtin "claim.caller" {}, none, none, [], none⟩ t
      (Sem.finPost (model prog w) ⟨.builtin "claim.caller" {}, none, none, [], none⟩ fun r s' => R r s' ∧ leftWithCleanup s'.gens = false)
      (fun e _ s' => R (.error e) s' ∧ leftWithCleanup s'.gens = false) default s := by
    refine Sem.wp_mono _ _ t (fun fin p' s' h' => ?_) (fun _ _ _ h' => h') default s (h _ default caller_clean nil_clean caller_in)
    obtain ⟨f, rfl, hf⟩ := h'
    exact hf
  obtain ⟨n, r, s₁, s₂, hs, hn, hfo, hR⟩ := wp_halts_full (M := model prog w) (R := R) hreg hw
  exact ⟨n, r, s₂, s₁, hn, hs, hfo, hR⟩

theorem callFrom_C {c : ClaimW} {tree : List Value → Sem Fin} {w : World} {s : Shared} {free : Addr → Prop} {gens : Prop} {kept : Heap → Prop} (hz : s.asleep) (hgens : s.gens = #[])
    (hspec : ∀ args, c.pre args = true → WData.layableAll args = true →
      ∀ ord : List DictEntry → List DictEntry, (∀ l, (ord l).Perm l) →
      ∃ vs s₁, layAllW c.records (classAt s.heap) w.params ord args s = some (vs, s₁) ∧
        wpC (model c.prog w) callerA (tree vs) (fun fin s' => ∃ f, fin = .done f ∧ (c.Ends s args vs s₁ (.ok f) s' ∧ s'.os = s.os ∧ AllBare s'.gens ∧ kept s'.heap))
          (fun e s' => c.Ends s args vs s₁ (.error e) s' ∧ s'.os = s.os ∧ AllBare s'.gens ∧ kept s'.heap) s₁) :
    c.CallFrom (fun vs => ⟨tree vs, .builtin "claim.caller" {}, default, []⟩) w free gens kept s := by
  intro args hpre hlay ord hord
  obtain ⟨vs, s₁, hlaid, hcode⟩ := hspec args hpre hlay ord hord
  have hal := layAllW_rest _ _ _ hlaid
  obtain ⟨k, r, s', s'', hrun, hsched, hfo, hcase, hos, hkp⟩ := thread_ends_C (prog := c.prog) (w := w) (t := tree vs) (s := s₁)
    (R := fun r s' => c.Ends s args vs s₁ r s' ∧ s'.os = s.os ∧ kept s'.heap)
    (Shared.asleep_of_life hal.2.2.2 hz)
    (wpC_mono hcode (by
      rintro fin s' ⟨f, e, h1, h2, h3, h4⟩
      exact ⟨f, e, ⟨h1, h2, h4⟩, leftWithCleanup_false_of_bare h3⟩) (by
      rintro e s' ⟨h1, h2, h3, h4⟩
      exact ⟨⟨h1, h2, h4⟩, leftWithCleanup_false_of_bare h3⟩))
  obtain ⟨eh, _, _, eo, _⟩ := Shared.forget_eq hfo
  have hcase := hcase.congr eh
  have hkp : kept s'.heap := by rw [eh]; exact hkp
  rw [← eo] at hos
  have hlife : s'.heap.life = s.heap.life := (runN_life _ _ _ hrun).trans hal.2.2.2
  refine ⟨vs, s₁, hlaid, k, _, s', hsched, ?_, (fun _ i x hx => by rw [hgens] at hx; simp at hx), hkp, by rw [hlife], Shared.rest_eq hos⟩
  rcases hcase with ⟨v, rfl, d1, d2, d3, d4, d5⟩ | ⟨e, ob, cls, rfl, d1, d2, d3, d4, d5⟩
  · exact .inl ⟨v, rfl, d1, d2, d3, fun b o y _ => d4 b o y, d5⟩
  · exact .inr ⟨e, ob, cls, rfl, d1, d2, d3, d4, fun b o y _ => d5 b o y⟩

/-- what is asked of the walk: the call, on clean stacks -/
abbrev WalkC (q : Program) (loose : List Str) (XP : (Str → Option Value) → Heap → Prop) (YP : World → Heap → Prop) (r : RowW) (d : DefRec) (kwd : List (Str × Expr)) : Prop :=
  ∀ (w : World) (s₀ s₁ : Shared) (mg mb : Str → Option Value), Ground q loose r.records XP w s₀ mg mb s₁.heap → YP w s₁.heap → ∀ (a : Addr) (o : Obj) (pm cd doc dV kV : Value), s₁.heap.get? a = some o →
    o.data = .func { docDef d.name d.params d.body d.scope pm cd doc with defaults := dV, kwdefaults := kV } → s₁.heap.CodeRec cd d.name → Dflts mg s₁.heap d.params kwd dV kV → mg d.name = some (.ref a) → s₁.gens = #[] →
    ∀ (args : List WData) (vals : List Value) (as : List Addr), r.claim.pre args = true → WData.layableAll args = true → ReadsAllW r.records (classAt s₀.heap) s₁.heap vals args as → WellAll w.params s₁.heap vals args → (∀ a ∈ as, (a == sysModules) = false) →
      wpC (model r.prog w) callerA (PySem.call (.ref a) vals) (fun v s' => GoodWG r.claim (classAt s₀.heap) (ExcName.means s₀.heap) args s₁ (.ok (.ret v)) s')
        (fun _ _ => False) s₁

namespace PySem.W
theorem holds_open {r : OpenRow} {q : Program} {loose : List Str} {Xt : Shared → Bool} {XP : (Str → Option Value) → Heap → Prop} {α : Type} {Yf : Shared → α} {Ya : World → α} {YP : World → Heap → Prop} {d : DefRec} {kwd : List (Str × Expr)} {N : Nat}
    (left : LeftO r.prog q loose Xt Yf Ya N) (hY : ∀ w s, Yf s = Ya w → YP w s.heap) (hYk : ∀ w h h', YP w h → (∀ b o, h.get? b = some o → h'.get? b = some o) → YP w h')
    (hX : ∀ s, Xt s = true → XP (s.heap.nsMap mainGlobals) s.heap) (hXk : ∀ mg h h', XP mg h → (∀ b o, h.get? b = some o → h'.get? b = some o) → XP mg h')
    (hdef : defOf q r.name = some (d, kwd)) (hp : r.prog.theDef r.name = some (d.params, d.body, d.scope)) (hk : kwWritten? d.params.kwonlyargs d.params.kw_defaults = some kwd) (hRf : ∀ s, Xt s = true → RecFacts r.records s.heap) (hwr : (!r.writes || r.records.isEmpty) = true)
    (k1 : r.wellSaid = true) (ok : (chainsOk q && opensWell r.prog && (frees r.toRowW && r.within.isEmpty)) = true) (hb : r.prog.bare) (hw : r.toRowW.promised)
    (call : WalkC q loose XP YP r.toRowW d kwd) : r.Holds := by
  obtain ⟨ok, k5⟩ := Bool.and_eq_true_iff.mp ok
  obtain ⟨hch, o1⟩ := Bool.and_eq_true_iff.mp ok
  obtain ⟨k5, k6⟩ := Bool.and_eq_true_iff.mp k5
  obtain ⟨hsame, hu, ha, hap, hm⟩ := frees_parts k5
  refine ⟨k1, hw, ⟨hb, o1, by show r.makers.map _ = []; rw [hm]; rfl⟩, hw.witness, fun w => ⟨(left.behind hX hch w).1, fun s' hs' => ?_⟩⟩
  obtain ⟨s₀, hf, hg0, s, hT, hz, hgens, hg, G00, y⟩ := (left.behind (XP := fun mg h => XP mg h ∧ RecFacts r.records h) (fun s hs => ⟨hX s hs, hRf s hs⟩) hch w).2 s' hs'
  have G0 : Ground q loose [] XP w s (s.heap.nsMap mainGlobals) (s.heap.nsMap builtinsNs) s.heap := ⟨G00.T, G00.B, G00.D, G00.TE, G00.TD, G00.W, G00.X.1, G00.cls, G00.has, G00.apart, G00.once, G00.K⟩
  have RF := G00.X.2
  have pin : ∀ n ∈ (if r.pinned then [r.name] else []), isTheDefsW r.prog s.heap n := fun n hn => by
    obtain rfl : n = r.name := by split at hn <;> simp_all
    exact pinned_of_view hg G0 hdef hp hk
  refine ⟨s₀, hf, hg0, s, hT, pin, RF.1, RF.2.1, ?_⟩
  have hgens : s.gens = #[] := Array.eq_empty_of_size_eq_zero (beq_iff_eq.mp hgens)
  have G : Ground q loose r.records XP w s _ _ s.heap := RF.ground G0
  refine callFrom_C (c := r.toRowW.claim) (tree := fun vs => do match ← nsGet mainNs r.name with
      | some f => do ret (← PySem.call f vs)
      | none => unsupported "claim.caller:no-such-global") hz hgens fun args hpre hlay ord hord => ?_
  obtain ⟨⟨vs, s₁⟩, hlaid⟩ := Option.isSome_iff_exists.mp (layAllW_isSome (P := w.params) (ord := ord) G.has args r.args s (pre_splitW hpre).1)
  have keeps := layAllW_keeps _ _ _ hlaid
  have hal := layAllW_rest _ _ _ hlaid
  obtain ⟨as, hrd, hin, hold⟩ := reads_layAllW hord _ _ _ hlaid hlay s₁.heap (fun _ _ e => e)
  have L : Laid r.records w s s₁ args vs as := ⟨⟨ord, hord, hlaid⟩, hrd, hin, hold, keeps, hal.1.trans hgens, hal.2.2.1⟩
  have G₁ := G.keeps hXk keeps
  obtain ⟨a, o, pm, cd, doc, dV, kV, h1, h2, h3, h4, h5⟩ := G₁.fn hdef
  have h := call w s s₁ _ _ G₁ (hYk _ _ _ (hY w s y) keeps) a o pm cd doc dV kV h2 h3 h4 h5 (defOf_name hdef ▸ h1) L.gens args vs as hpre hlay L.reads L.well (L.low G.low)
  have hi := ident_freeW hu ha hap
  have hwi : r.toRowW.claim.within = [] := List.isEmpty_iff.mp k6
  refine ⟨vs, s₁, hlaid, wpC_step (wpAny_nsGet G₁.T.g ?_)⟩
  rw [h1]
  refine wpC_bind (wpC_mono h (fun v s' g => wpC_pure ⟨_, rfl, ?_⟩) fun _ _ x => x.elim)
  have z := g.laid (c := r.toRowW.claim) hsame hwi hi L
  exact ⟨z.1, z.2.1, z.2.2, fun q => ⟨namesKept_of hT hg _ keeps g.2.1.old, noTable hwr q⟩⟩
end PySem.W
end Mine
end

/-! part Hd3 -/
section
open PySem PySem.W PyProof.Rows
set_option maxRecDepth 100000
set_option maxHeartbeats 8000000
namespace Mine
open_top hd for PySem.Challenge.rw_bi0009_01
end Mine
end

/-! part Ba0 -/
section
open PySem PySem.W PyProof.Rows PySem.Calls PyProof.V PySem.Spec PySem.Builtin
set_option maxRecDepth 100000
set_option maxHeartbeats 4000000
namespace Mine
/-! bytearrays: the rules of their operations -/
namespace Ba

theorem slot_getitem : Slot "bytearray" "__getitem__" "bytearray.__getitem__" :=
  .of (owner := "bytearray") (n := "__getitem__") (by rw [typeLookup_type, builtinLookup_eq_fast]; kernel_rfl) (by decide +kernel) (by decide +kernel) (by decide +kernel)
    (by first | exact .inl (by decide +kernel) | exact .inr (by decide +kernel)) (by rw [isSubtype_type]; kernel_rfl)
theorem slot_setitem : Slot "bytearray" "__setitem__" "bytearray.__setitem__" :=
  .of (owner := "bytearray") (n := "__setitem__") (by rw [typeLookup_type, builtinLookup_eq_fast]; kernel_rfl) (by decide +kernel) (by decide +kernel) (by decide +kernel)
    (by first | exact .inl (by decide +kernel) | exact .inr (by decide +kernel)) (by rw [isSubtype_type]; kernel_rfl)
theorem slot_len : Slot "bytearray" "__len__" "bytearray.__len__" :=
  .of (owner := "bytearray") (n := "__len__") (by rw [typeLookup_type, builtinLookup_eq_fast]; kernel_rfl) (by decide +kernel) (by decide +kernel) (by decide +kernel)
    (by first | exact .inl (by decide +kernel) | exact .inr (by decide +kernel)) (by rw [isSubtype_type]; kernel_rfl)
theorem slot_iter : Slot "bytearray" "__iter__" "bytearray.__iter__" :=
  .of (owner := "bytearray") (n := "__iter__") (by rw [typeLookup_type, builtinLookup_eq_fast]; kernel_rfl) (by decide +kernel) (by decide +kernel) (by decide +kernel)
    (by first | exact .inl (by decide +kernel) | exact .inr (by decide +kernel)) (by rw [isSubtype_type]; kernel_rfl)
theorem slot_add : Slot "bytearray" "__add__" "bytearray.__add__" :=
  .of (owner := "bytearray") (n := "__add__") (by rw [typeLookup_type, builtinLookup_eq_fast]; kernel_rfl) (by decide +kernel) (by decide +kernel) (by decide +kernel)
    (by first | exact .inl (by decide +kernel) | exact .inr (by decide +kernel)) (by rw [isSubtype_type]; kernel_rfl)
theorem entry_getitem : entryFor table "bytearray.__getitem__" = some Builtin.«bytearray.__getitem__» := by first | exact entryFor_of_fast (by kernel_rfl) | exact entryFor_of_tree (by kernel_rfl)
theorem entry_setitem : entryFor table "bytearray.__setitem__" = some Builtin.«bytearray.__setitem__» := by first | exact entryFor_of_fast (by kernel_rfl) | exact entryFor_of_tree (by kernel_rfl)
theorem entry_len : entryFor table "bytearray.__len__" = some Builtin.«bytearray.__len__» := by first | exact entryFor_of_fast (by kernel_rfl) | exact entryFor_of_tree (by kernel_rfl)
theorem entry_iter : entryFor table "bytearray.__iter__" = some Builtin.«bytearray.__iter__» := by first | exact entryFor_of_fast (by kernel_rfl) | exact entryFor_of_tree (by kernel_rfl)
theorem entry_add : entryFor table "bytearray.__add__" = some Builtin.«bytearray.__add__» := by first | exact entryFor_of_fast (by kernel_rfl) | exact entryFor_of_tree (by kernel_rfl)
theorem entry_init : entryFor table "bytearray.__init__" = some Builtin.«bytearray.__init__» := by first | exact entryFor_of_fast (by kernel_rfl) | exact entryFor_of_tree (by kernel_rfl)
theorem args_getitem (a b : Value) : argsOk "bytearray.__getitem__" ⟨[a, b], []⟩ := by unfold argsOk; kernel_rfl
theorem args_setitem (a b c : Value) : argsOk "bytearray.__setitem__" ⟨[a, b, c], []⟩ := by unfold argsOk; kernel_rfl
theorem args_len (a : Value) : argsOk "bytearray.__len__" ⟨[a], []⟩ := by unfold argsOk; kernel_rfl
theorem args_iter (a : Value) : argsOk "bytearray.__iter__" ⟨[a], []⟩ := by unfold argsOk; kernel_rfl
theorem args_add (a b : Value) : argsOk "bytearray.__add__" ⟨[a, b], []⟩ := by unfold argsOk; kernel_rfl

end Ba
end Mine
end

/-! part Ba -/
section
open PySem PySem.W PyProof.Rows PySem.Calls PyProof.V PySem.Spec PySem.Builtin
set_option maxRecDepth 100000
set_option maxHeartbeats 4000000
namespace Mine
namespace Ba
def obj (b : Array UInt8) : Obj := { cls := .type "bytearray", data := .bytearray b }
abbrev bi (b : Array UInt8) : List Int := KBw.bInts b
section
variable {prog : Program} {w : World} {A : Around} {E : Value → Shared → Prop} {s : Shared} {b : Array UInt8} {a : Addr}
theorem typeIs (ho : s.heap.get? a = some (obj b)) : s.TypeIs (.ref a) "bytearray" := ⟨_, ho, rfl⟩
theorem payload {Q : Array UInt8 → Shared → Prop} (ho : s.heap.get? a = some (obj b)) (h : Q b s) : wpAny (model prog w) A (Bytes.payload (.ref a)) Q E s := by
  unfold Bytes.payload Bytes.payload?
  exact wpAny_bind (wpAny_bind (wpAny_load ho (wpAny_pure (wpAny_pure h))))
theorem subscript_int {i : Int} {u : Tok} {Q : Option Int → Shared → Prop} (h0 : -(2 ^ 63) ≤ i) (h1 : i < 2 ^ 63) (h : Q (some i) s) : wpAny (model prog w) A (Bytes.subscript? (.int i u)) Q E s := by
  unfold Bytes.subscript?
  refine wpAny_bind (wpAny_specialOf (typeIs_int s i u) F.slot_int_index.lookup ?_)
  show wpAny _ A (if (!Bytes.fitsIndex i) = true then _ else pure (some i)) _ E s
  have hr : Bytes.fitsIndex i = true := by simp only [Bytes.fitsIndex, Bool.and_eq_true, decide_eq_true_eq]; omega
  rw [hr]
  exact wpAny_pure h
theorem getD_ints (j : Nat) (hj : j < b.size) : (b[j]?.elim 0 fun c => (c.toNat : Int)) = (bi b).getD j 0 := by
  simp [bi, KBw.bInts, hj, List.getD_eq_getElem?_getD]
theorem getItem {k : Int} {u : Tok} {Q : Value → Shared → Prop} (ho : s.heap.get? a = some (obj b)) (h0 : 0 ≤ k) (h1 : k < b.size) (hf : b.size ≤ 1099511627776)
    (h : ∀ t, Q (.int ((bi b).getD k.toNat 0) t) { s with toks := s.toks + 1 }) : wpAny (model prog w) A (PySem.getItem (.ref a) (.int k u)) Q E s := by
  refine wpAny_getItem_slot (typeIs ho) (by decide) slot_getitem (wpAny_call_entry slot_getitem (typeIs ho) entry_getitem ?_ (args_getitem _ _))
  show wpAny _ _ (Bytes.subscript? (.int k u) >>= fun r => _) _ _ s
  refine wpAny_bind (subscript_int (by omega) (by omega) ?_)
  refine wpAny_bind (payload ho ?_)
  have hk : k.toNat < b.size := by omega
  have e : (seqIndex? k b.size).bind (b[·]?) = some b[k.toNat] := by
    rw [seqIndex_of h0 (by omega)]
    simp [hk]
  rw [e]
  have e2 : (bi b).getD k.toNat 0 = (b[k.toNat].toNat : Int) := by
    rw [← getD_ints _ hk]; simp [hk]
  show wpAny _ _ (retInt (b[k.toNat].toNat : Int)) _ _ s
  rw [← e2]
  exact wpAny_bind (wpAny_mkInt (wpAny_pure ⟨_, rfl, h _⟩))
end
end Ba
end Mine
end

/-! part Ba1 -/
section
open PySem PySem.W PyProof.Rows PySem.Calls PyProof.V PySem.Spec PySem.Builtin
set_option maxRecDepth 100000
set_option maxHeartbeats 4000000
namespace Mine
namespace Ba
theorem look_buffer : typeLookup (.type "bytearray") "__buffer__" = pure (some (.builtin "bytearray.__buffer__")) := by rw [typeLookup_type, builtinLookup_eq_fast]; kernel_rfl
theorem look_release : typeLookup (.type "bytearray") "__release_buffer__" = pure (some (.builtin "bytearray.__release_buffer__")) := by rw [typeLookup_type, builtinLookup_eq_fast]; kernel_rfl
theorem look_bytes : typeLookup (.type "bytearray") "__bytes__" = pure none := by rw [typeLookup_type, builtinLookup_eq_fast]; kernel_rfl
theorem look_index : typeLookup (.type "bytearray") "__index__" = pure none := by rw [typeLookup_type, builtinLookup_eq_fast]; kernel_rfl
theorem sub_self : isSubtype (.type "bytearray") (.type "bytearray") = pure true := by rw [isSubtype_type]; kernel_rfl
theorem nor_add : typeLookup (.type "bytearray") (dunderR "add") = pure none := by rw [typeLookup_type, builtinLookup_eq_fast]; kernel_rfl
theorem nofill_add : fillsNumberSlot (.type "bytearray") "add" = pure false := PySem.fillsNumberSlot_seq (id := "bytearray.__add__") (r := none) slot_add.lookup (by decide +kernel) nor_add rfl
theorem seq_add : seqSlot? (.type "bytearray") "__add__" = pure (some (.builtin "bytearray.__add__")) := PySem.seqSlot_of slot_add.lookup (by decide +kernel)
theorem slot_next : Slot "bytearray_iterator" "__next__" "bytearray_iterator.__next__" :=
  .of (owner := "bytearray_iterator") (n := "__next__") (by rw [typeLookup_type, builtinLookup_eq_fast]; kernel_rfl) (by decide +kernel) (by decide +kernel) (by decide +kernel)
    (by first | exact .inl (by decide +kernel) | exact .inr (by decide +kernel)) (by rw [isSubtype_type]; kernel_rfl)
theorem slot_self : Slot "bytearray_iterator" "__iter__" "bytearray_iterator.__iter__" :=
  .of (owner := "bytearray_iterator") (n := "__iter__") (by rw [typeLookup_type, builtinLookup_eq_fast]; kernel_rfl) (by decide +kernel) (by decide +kernel) (by decide +kernel)
    (by first | exact .inl (by decide +kernel) | exact .inr (by decide +kernel)) (by rw [isSubtype_type]; kernel_rfl)
theorem entry_next : entryFor table "bytearray_iterator.__next__" = some Builtin.«bytearray_iterator.__next__» := by first | exact entryFor_of_fast (by kernel_rfl) | exact entryFor_of_tree (by kernel_rfl)
theorem entry_self : entryFor table "bytearray_iterator.__iter__" = some Builtin.«dict_keyiterator.__iter__» := entryFor_alias (id' := "dict_keyiterator.__iter__") (by kernel_rfl) rfl (by decide +kernel) (by kernel_rfl)
theorem args_next (a : Value) : argsOk "bytearray_iterator.__next__" ⟨[a], []⟩ := by unfold argsOk; kernel_rfl
theorem args_self (a : Value) : argsOk "bytearray_iterator.__iter__" ⟨[a], []⟩ := by unfold argsOk; kernel_rfl
section
variable {prog : Program} {w : World} {A : Around} {E : Value → Shared → Prop} {s : Shared} {b c : Array UInt8} {a : Addr}

/-- what a store makes of the bytes -/
theorem write {f : Array UInt8 → Array UInt8} {Q : Unit → Shared → Prop} (ho : s.heap.get? a = some (obj b)) (hz : (f b).size ≤ sizeLine)
    (h : (s.heap.update a (Obj.mapBytearray f)).get? a = some (obj (f b)) → Heap.SameBut a s.heap (s.heap.update a (Obj.mapBytearray f)) → Q () { s with heap := s.heap.update a (Obj.mapBytearray f) }) :
    wpAny (model prog w) A (Bytes.write (.ref a) f) Q E s := by
  show wpAny _ _ (updateBytearray a f) _ _ _
  unfold updateBytearray
  refine wpAny_bind (wpAny_load ho ?_)
  show wpAny _ _ (update a (Obj.mapBytearray f) >>= fun _ => lookBehind a) _ _ _
  have h2 : (s.heap.update a (Obj.mapBytearray f)).get? a = some (obj (f b)) := Heap.get?_update_self (Obj.mapBytearray f) ho rfl
  refine wpAny_bind (wpAny_update ho (wpAny_lookBehind h2 ?_ (h h2 (Heap.SameBut.update ..))))
  show (if (f b).size > sizeLine then some "bytearray:memory" else none) = none
  rw [if_neg (by omega)]

theorem byteValue {v : Int} {u : Tok} {Q : UInt8 → Shared → Prop} (h0 : 0 ≤ v) (h1 : v < 256) (h : Q v.toNat.toUInt8 s) : wpAny (model prog w) A (Bytes.byteValue (.int v u)) Q E s := by
  unfold Bytes.byteValue
  refine wpAny_bind (wpAny_of_eq (a := v) rfl ?_)
  refine bm_if_false (by simp only [Bool.or_eq_false_iff, decide_eq_false_iff_not]; omega) ?_
  exact wpAny_pure h

theorem setItem {k v : Int} {u x : Tok} {Q : Unit → Shared → Prop} (ho : s.heap.get? a = some (obj b)) (h0 : 0 ≤ k) (h1 : k < b.size) (hf : b.size ≤ 16777216) (hv0 : 0 ≤ v) (hv1 : v < 256)
    (h : ∀ h', h'.get? a = some (obj (b.setIfInBounds k.toNat v.toNat.toUInt8)) → Heap.SameBut a s.heap h' → Q () { s with heap := h' }) : wpAny (model prog w) A (PySem.setItem (.ref a) (.int k u) (.int v x)) Q E s := by
  unfold PySem.setItem
  refine wpAny_holding (wpAny_bind (wpAny_sequenceKey (typeIs ho) (by decide) ?_))
  refine wpAny_bind (wpAny_callSpecial?_slot (name := Str.ofString "__setitem__") (typeIs ho) slot_setitem
    (wpAny_call_entry slot_setitem (typeIs ho) entry_setitem ?_ (args_setitem _ _ _)))
  show wpAny _ _ (Bytes.subscript? (.int k u) >>= fun r => _) _ _ s
  refine wpAny_bind (subscript_int (by omega) (by omega) ?_)
  refine wpAny_bind (byteValue hv0 hv1 ?_)
  refine wpAny_bind (payload ho ?_)
  have e : seqIndex? k b.size = some k.toNat := seqIndex_of h0 (by omega)
  rw [e]
  refine wpAny_bind (write ho (by rw [Array.size_setIfInBounds, sizeLine_eq]; exact hf) fun h2 hs => ?_)
  first
    | exact wpAny_bind (wpAny_pure (wpAny_pure ⟨.none, rfl, wpAny_pure (h _ h2 hs)⟩))
    | exact wpAny_pure ⟨.none, rfl, wpAny_pure (h _ h2 hs)⟩

theorem len {Q : Value → Shared → Prop} (ho : s.heap.get? a = some (obj b)) (hf : b.size ≤ 1099511627776) (h : Q (.int b.size (s.toks + 1)) { s with toks := s.toks + 1 + 1 }) :
    wpAny (model prog w) A (call (.builtin "len") [.ref a]) Q E s := by
  refine call_len_slot (typeIs ho) slot_len (fun Q' hq => ?_) (by omega) (by omega) h
  refine wpAny_call_entry slot_len (typeIs ho) entry_len ?_ (args_len _)
  show wpAny _ _ (Bytes.payload (.ref a) >>= fun r => _) _ _ s
  exact wpAny_bind (payload ho (wpAny_bind (wpAny_mkInt (wpAny_pure ⟨_, rfl, hq⟩))))

theorem slotOwn {nm : Str} {id : String} {nm' : String} (hn : (nm' : Str) = nm) {Q : Bool → Shared → Prop} (ho : s.heap.get? a = some (obj b)) (hl : typeLookup (.type "bytearray") nm = pure (some (.builtin id)))
    (he : id.endsWith ("." ++ nm') = true) (hd : id.dropRight (nm'.length + 1) = "bytearray") (h : Q true s) : wpAny (model prog w) A (Bytes.slotIsOwn (.ref a) nm') Q E s := by
  unfold Bytes.slotIsOwn
  rw [hn]
  refine wpAny_bind (wpAny_specialOf (typeIs ho) hl ?_)
  show wpAny _ _ (if (!id.endsWith ("." ++ nm')) = true then _ else _) _ _ _
  rw [if_neg (by rw [he]; decide), hd]
  exact wpAny_isInstance (typeIs ho) sub_self h
theorem ownRelease {Q : Bool → Shared → Prop} (ho : s.heap.get? a = some (obj b)) (h : Q false s) : wpAny (model prog w) A (Bytes.ownRelease (.ref a)) Q E s := by
  unfold Bytes.ownRelease
  exact wpAny_bind (slotOwn (nm := "__release_buffer__") rfl ho look_release (by decide +kernel) (by decide +kernel) (wpAny_pure h))
theorem buffer {id : String} {full : Bool} {Q : Option (Array UInt8) → Shared → Prop} (ho : s.heap.get? a = some (obj b)) (h : Q (some b) s) : wpAny (model prog w) A (Bytes.buffer? id (.ref a) full) Q E s := by
  unfold Bytes.buffer?
  refine wpAny_bind (wpAny_specialOf (typeIs ho) look_buffer ?_)
  refine wpAny_bind (slotOwn (nm := "__buffer__") rfl ho look_buffer (by decide +kernel) (by decide +kernel) ?_)
  refine bm_if_false rfl ?_
  refine wpAny_bind (wpAny_specialOf (typeIs ho) look_buffer ?_)
  refine wpAny_bind (ownRelease ho ?_)
  refine bm_if_false rfl ?_
  exact wpAny_bind (payload ho (wpAny_pure h))
theorem newBa {Q : Value → Shared → Prop} (hz : b.size ≤ 16777216) (h : Q (.ref s.heap.objs.size) { s with heap := s.heap.push (obj b) }) : wpAny (model prog w) A (Bytes.newBytearray b) Q E s := by
  unfold Bytes.newBytearray
  exact wpAny_newObj_type h (by show b.size ≤ sizeLine; rw [sizeLine_eq]; exact hz)

theorem add {u : Tok} {Q : Value → Shared → Prop} (ho : s.heap.get? a = some (obj b)) (hz : b.size + c.size ≤ 16777216) (h : Q (.ref s.heap.objs.size) { s with heap := s.heap.push (obj (b ++ c)) }) :
    wpAny (model prog w) A (binaryOp .Add (.ref a) (.bytes c u)) Q E s := by
  unfold binaryOp
  refine wpAny_holding (wpAny_bind ?_)
  unfold binaryOp1
  refine wpAny_bind (wpAny_typeOf (typeIs ho) (wpAny_bind (wpAny_typeOf (typeIs_bytes s c u) ?_)))
  refine wpAny_bind (wpAny_of_eq nofill_add ?_)
  refine bm_if_false (by decide) ?_
  refine wpAny_bind (wpAny_of_eq KBy.noFill_bytes_add ?_)
  refine wpAny_bind (wpAny_pure ?_)
  refine wpAny_pure ?_
  refine wpAny_bind (wpAny_typeOf (typeIs ho) ?_)
  refine wpAny_bind (wpAny_of_eq seq_add ?_)
  refine wpAny_bind (wpAny_rule ?_)
  refine wpAny_call_entry slot_add (typeIs ho) entry_add ?_ (args_add _ _)
  show wpAny _ _ (Bytes.buffer? "bytearray.__add__" (.ref a) >>= fun r => _) _ _ s
  refine wpAny_bind (buffer ho ?_)
  refine wpAny_bind (wpAny_of_eq KBy.quiet_eq ?_)
  refine bm_if_false (KBy.tooLong_not hz) ?_
  exact wpAny_bind (newBa (by rw [Array.size_append]; exact hz) (wpAny_pure ⟨_, rfl, h⟩))
end
end Ba
end Mine
end

/-! part Ba2 -/
section
open PySem PySem.W PyProof.Rows PySem.Calls PyProof.V PySem.Spec PySem.Builtin
set_option maxRecDepth 100000
set_option maxHeartbeats 4000000
namespace Mine
namespace Ba

def IsIter (h : Heap) (it a : Addr) (i : Nat) : Prop := ∃ o, h.get? it = some o ∧ o.cls = .type "bytearray_iterator" ∧ o.data = .fields #[.ref a, .int i 0]
theorem iter_typeIs {s : Shared} {it a : Addr} {i : Nat} (y : IsIter s.heap it a i) : s.TypeIs (.ref it) "bytearray_iterator" :=
  let ⟨o, ho, hc, _⟩ := y; ⟨o, ho, hc⟩
section
variable {prog : Program} {w : World} {A : Around} {E : Value → Shared → Prop} {s : Shared} {b : Array UInt8} {a : Addr}
theorem pyIter {Q : Value → Shared → Prop} (ho : s.heap.get? a = some (obj b)) (hQ : Q (.ref s.heap.objs.size) { s with heap := s.heap.push { cls := .type "bytearray_iterator", data := .fields #[.ref a, .int 0 0] } }) : wpAny (model prog w) A (PySem.pyIter (.ref a)) Q E s := by
  refine wpAny_pyIter_slot (typeIs ho) slot_iter (wpAny_call_entry slot_iter (typeIs ho) entry_iter ?_ (args_iter _))
  show wpAny _ _ (do ret (← newFields "bytearray_iterator" [.ref a, rawInt 0])) _ _ s
  exact wpAny_bind (wpAny_newObj_type (wpAny_pure ⟨_, rfl, "bytearray_iterator", _, ⟨_, Heap.get?_push_size _ rfl, rfl⟩, slot_next.lookup, hQ⟩))
theorem pyIter_self {it : Addr} {i : Nat} {Q : Value → Shared → Prop} (hit : IsIter s.heap it a i) (h : Q (.ref it) s) : wpAny (model prog w) A (PySem.pyIter (.ref it)) Q E s := by
  refine wpAny_pyIter_slot (iter_typeIs hit) slot_self (wpAny_call_entry slot_self (iter_typeIs hit) entry_self ?_ (args_self _))
  show wpAny _ _ (ret (.ref it)) _ _ s
  exact wpAny_pure ⟨_, rfl, "bytearray_iterator", _, iter_typeIs hit, slot_next.lookup, h⟩
theorem next_item {it : Addr} {i : Nat} {c : UInt8} {Q : Option Value → Shared → Prop} (ho : s.heap.get? a = some (obj b)) (hit : IsIter s.heap it a i) (hx : b[i]? = some c)
    (hQ : ∀ h', IsIter h' it a (i + 1) → Heap.SameBut it s.heap h' → Q (some (.int (c.toNat : Int) s.toks)) { s with heap := h', toks := s.toks + 1 }) : wpAny (model prog w) A (pyNext (.ref it)) Q E s := by
  obtain ⟨o, hi, hc, hd⟩ := id hit
  unfold pyNext
  refine wpAny_bind (wpAny_attempt (wpAny_callSpecial?_slot (name := Str.ofString "__next__") (iter_typeIs hit) slot_next
    (wpAny_call_entry slot_next (iter_typeIs hit) entry_next ?_ (args_next _))))
  show wpAny _ _ (field (.ref it) 0 >>= _) _ _ s
  refine wpAny_bind (wpAny_field hi hd (x := .ref a) rfl ?_)
  refine wpAny_bind (wpAny_load ho ?_)
  show wpAny _ _ (field (.ref it) 1 >>= _) _ _ s
  refine wpAny_bind (wpAny_field hi hd (x := .int i 0) rfl ?_)
  simp only [Int.toNat_natCast, hx]
  refine wpAny_bind (wpAny_setField hi hd (by simp) (wpAny_bind (wpAny_mkInt (wpAny_pure ⟨_, rfl, wpAny_pure (hQ _ ?_ (Heap.SameBut.update ..))⟩))))
  exact ⟨_, Heap.get?_update_self _ hi (Obj.isFreed_of_fields (Obj.data_mapFields hd _)), (Obj.cls_mapFields ..).trans hc, by
    rw [Obj.data_mapFields hd]; simp [rawInt]⟩
theorem next_end {it : Addr} {i : Nat} {Q : Option Value → Shared → Prop} (hh : A.handled = none) (ho : s.heap.get? a = some (obj b)) (hit : IsIter s.heap it a i) (hx : b[i]? = none)
    (hQ : ∀ h', Heap.ExtBut it s.heap h' → Q none { s with heap := h' }) : wpAny (model prog w) A (pyNext (.ref it)) Q E s := by
  obtain ⟨o, hi, hc, hd⟩ := id hit
  unfold pyNext
  refine wpAny_bind (wpAny_attempt (wpAny_callSpecial?_slot (name := Str.ofString "__next__") (iter_typeIs hit) slot_next
    (wpAny_call_entry slot_next (iter_typeIs hit) entry_next ?_ (args_next _))))
  show wpAny _ _ (field (.ref it) 0 >>= _) _ _ s
  refine wpAny_bind (wpAny_field hi hd (x := .ref a) rfl ?_)
  refine wpAny_bind (wpAny_load ho ?_)
  show wpAny _ _ (field (.ref it) 1 >>= _) _ _ s
  refine wpAny_bind (wpAny_field hi hd (x := .int i 0) rfl ?_)
  simp only [Int.toNat_natCast, hx]
  refine wpAny_bind (wpAny_rule (wpAny_bind (wpAny_setField hi hd (by simp) ?_)))
  refine wpAny_bind (wpAny_letGo ?_)
  show wpAny _ _ (newExc (.type "StopIteration") [] >>= _) _ _ _
  refine wpAny_bind ?_
  simp only [newExc, newTuple]
  refine wpAny_bind (wpAny_newObj_type ?_ (by size_fits))
  refine wpAny_bind (m := firstArgMember _ _) (wpAny_of_eq (a := Value.none) (by first | rfl | (simp only [firstArgMember]; rfl)) ?_)
  refine wpAny_newObj_type ?_ (by size_fits)
  simp only [raiseNew]
  refine wpAny_bind (wpAny_handled ?_)
  rw [show A.in1.handled = none from hh]
  refine wpAny_bind (wpAny_pure (wpAny_throw ?_))
  refine wpAny_bind (wpAny_isInstance (T := "StopIteration") (b := true) ⟨_, Heap.get?_push_size _ rfl, rfl⟩ isSubtype_stop ?_)
  exact wpAny_pure (hQ _ (((Heap.SameBut.update ..).extBut.push _).push _))
end
theorem walks {prog : Program} {w : World} {A : Around} (hh : A.handled = none) (I a : Addr) (hne : a ≠ I) (b : Array UInt8) :
    Walks prog w A I [I, a] [I] b.size (fun i v => ∃ c u, b[i]? = some c ∧ v = .int (c.toNat : Int) u) (fun i h => IsIter h I a i ∧ h.get? a = some (obj b)) where
  sub := fun _ hb => by simp at hb; simp [hb]
  frame := fun _ _ _ st hk => ⟨let ⟨o, ho, r⟩ := st.1; ⟨o, hk I (by simp) o ho, r⟩, hk a (by simp) _ st.2⟩
  item := fun i s Q E hi st hQ => by
    refine next_item st.2 st.1 (c := b[i]) (by simp [hi]) fun h' hit' hs' => ?_
    exact hQ _ h' (s.toks + 1) ⟨_, _, by simp [hi], rfl⟩ ⟨hit', hs'.extBut a _ hne st.2⟩ fun b o hb e => hs'.extBut b o (fun h => hb (by simp [h])) e
  done := fun s Q E st hQ => next_end hh st.2 st.1 (by simp) fun h' he' => hQ h' s.toks fun b o hb e => he' b o (fun h => hb (by simp [h])) e
  self := fun _ _ _ _ st hQ => pyIter_self st.1 hQ

/-- the bytes that a slice picks -/
def cut (b : Array UInt8) (lo hi st : Option Int) : Array UInt8 := Bytes.sliced b (sliceBounds lo hi st b.size).1 (sliceBounds lo hi st b.size).2.1 (sliceBounds lo hi st b.size).2.2
section
variable {prog : Program} {w : World} {A : Around} {E : Value → Shared → Prop} {s : Shared} {b : Array UInt8} {a sl : Addr}
theorem part {v : Value} {x : Option Int} (p : IsPart v x) {Q : Value → Shared → Prop} (h : Q (rawPart x) s) :
    wpAny (model prog w) A (do
      if v == .none then return .none
      if (← specialOf v "__index__").isNone then
        rule "bytes.slice.part-no-index"; raiseError "TypeError" "slice indices must be integers or None or have an __index__ method"
      return rawInt (← asIndex v)) Q E s := by
  cases p with
  | none => exact wpAny_pure h
  | int i t =>
    refine wpAny_bind (wpAny_specialOf (T := "int") (typeIs_int _ _ _) F.slot_int_index.lookup ?_)
    refine bm_if_false rfl ?_
    exact wpAny_bind (wpAny_of_eq (a := i) rfl (wpAny_pure h))
theorem sliceParts {l u st : Value} {lo hi step : Option Int} (hs : s.heap.IsSliceOf sl l u st) (pl : IsPart l lo) (pu : IsPart u hi) (ps : IsPart st step) (h0 : step ≠ some 0) {Q : Value × Value × Value → Shared → Prop}
    (h : Q (rawPart lo, rawPart hi, rawPart step) s) : wpAny (model prog w) A (Bytes.sliceParts (.ref sl)) Q E s := by
  obtain ⟨o, ho, hc, hd⟩ := hs
  have hstep : (rawPart step == rawInt 0) = false := by
    cases step with
    | none => rfl
    | some c =>
      have hc0 : c ≠ 0 := fun e => h0 (by rw [e])
      simp only [rawPart, rawInt, beq_eq_false_iff_ne, ne_eq, Value.int.injEq, not_and]
      intro e; exact absurd e hc0
  unfold Bytes.sliceParts
  refine wpAny_bind (wpAny_field (x := st) ho hd rfl ?_)
  refine wpAny_bind (part ps ?_)
  refine bm_if_false hstep ?_
  refine wpAny_bind (wpAny_field (x := l) ho hd rfl ?_)
  refine wpAny_bind (part pl ?_)
  refine wpAny_bind (wpAny_field (x := u) ho hd rfl ?_)
  exact wpAny_bind (part pu (wpAny_pure h))
theorem subscript_slice {l u st : Value} (hs : s.heap.IsSliceOf sl l u st) {Q : Option Int → Shared → Prop} (h : Q none s) : wpAny (model prog w) A (Bytes.subscript? (.ref sl)) Q E s := by
  obtain ⟨o, ho, hc, hd⟩ := hs
  unfold Bytes.subscript?
  exact wpAny_bind (wpAny_specialOf (T := "slice") ⟨o, ho, hc⟩ slice_no_index (wpAny_pure h))
theorem slice_type {l u st : Value} (hs : s.heap.IsSliceOf sl l u st) : s.TypeIs (.ref sl) "slice" := let ⟨o, ho, hc, _⟩ := hs; ⟨o, ho, hc⟩
theorem getSlice {l u st : Value} {lo hi step : Option Int} {Q : Value → Shared → Prop} (ho : s.heap.get? a = some (obj b)) (hs : s.heap.IsSliceOf sl l u st) (pl : IsPart l lo) (pu : IsPart u hi) (ps : IsPart st step) (h0 : step ≠ some 0)
    (hz : (cut b lo hi step).size ≤ 16777216) (h : Q (.ref s.heap.objs.size) { s with heap := s.heap.push (obj (cut b lo hi step)) }) : wpAny (model prog w) A (PySem.getItem (.ref a) (.ref sl)) Q E s := by
  refine wpAny_getItem_slot (typeIs ho) (by decide) slot_getitem (wpAny_call_entry slot_getitem (typeIs ho) entry_getitem ?_ (args_getitem _ _))
  show wpAny _ _ (Bytes.subscript? (.ref sl) >>= fun r => _) _ _ s
  refine wpAny_bind (subscript_slice hs ?_)
  refine wpAny_bind (wpAny_typeOf (slice_type hs) ?_)
  refine wpAny_bind (sliceParts hs pl pu ps h0 ?_)
  refine wpAny_bind (payload ho ?_)
  refine wpAny_bind (wpAny_of_eq (sliceIndices_raw lo hi step b.size h0) ?_)
  exact wpAny_bind (newBa hz (wpAny_pure ⟨_, rfl, h⟩))
theorem getSlice_bytes {l u st : Value} {t : Tok} {lo hi step : Option Int} {Q : Value → Shared → Prop} (hs : s.heap.IsSliceOf sl l u st) (pl : IsPart l lo) (pu : IsPart u hi) (ps : IsPart st step) (h0 : step ≠ some 0) (h1 : (step.getD 1 == 1) = false)
    (hz : (cut b lo hi step).size ≤ 16777216) (h : ∀ t', Q (.bytes (cut b lo hi step) t') { s with toks := s.toks + 1 }) : wpAny (model prog w) A (PySem.getItem (.bytes b t) (.ref sl)) Q E s := by
  refine wpAny_getItem_slot (typeIs_bytes s b t) (by decide) FB.slot_bytes_getitem (wpAny_call_entry FB.slot_bytes_getitem (typeIs_bytes s b t) FB.entry_bytes_getitem ?_ (FB.args_bytes_getitem_2 _ _))
  show wpAny _ _ (Bytes.payload (.bytes b t) >>= fun r => _) _ _ s
  refine wpAny_bind (wpAny_of_eq (a := b) rfl ?_)
  show wpAny _ _ (Bytes.subscript? (.ref sl) >>= fun r => _) _ _ s
  refine wpAny_bind (subscript_slice hs ?_)
  refine wpAny_bind (wpAny_typeOf (slice_type hs) ?_)
  refine wpAny_bind (sliceParts hs pl pu ps h0 ?_)
  refine wpAny_bind (wpAny_of_eq (sliceIndices_raw lo hi step b.size h0) ?_)
  refine bm_if_false (by simp only [h1, Bool.and_false, Bool.false_and]) ?_
  exact wpAny_bind (wpAny_mkBytes (wpAny_pure ⟨_, rfl, h _⟩) (by rw [sizeLine_eq]; exact hz))
end
end Ba
end Mine
end

/-! part Ba3 -/
section
open PySem PySem.W PyProof.Rows PySem.Calls PyProof.V PySem.Spec PySem.Builtin
set_option maxRecDepth 100000
set_option maxHeartbeats 4000000
namespace Mine
namespace Ba
theorem int_no_bytes : typeLookup (.type "int") "__bytes__" = pure none := by rw [typeLookup_type, builtinLookup_eq_fast]; kernel_rfl
section
variable {prog : Program} {w : World} {A : Around} {E : Value → Shared → Prop} {s : Shared} {b : Array UInt8} {a : Addr}

theorem bytes_new_ba {Q : Value → Shared → Prop} (ho : s.heap.get? a = some (obj b)) (hz : b.size ≤ 16777216) (hQ : ∀ t, Q (.bytes b t) { s with toks := s.toks + 1 }) :
    codeAny (model prog w) A (.call (.builtin "bytes.__new__") ⟨[.type "bytes", .ref a], []⟩) (wants Q E) s := by
  refine codeAny_of_tree ?_
  show wpAny _ A.in1 (do checkBuiltinCall "bytes.__new__" ⟨[.type "bytes", .ref a], []⟩; again (.builtin "bytes.__new__" ⟨[.type "bytes", .ref a], []⟩)) _ _ s
  refine wpAny_bind (wpAny_of_eq (F.bm_newCall _) (wpAny_pure ⟨plainId_quiet F.bm_plain _, codeAny_builtin F.bm_entry ?_⟩))
  rw [Around.under_plainId F.bm_plain _]
  unfold Builtin.«bytes.__new__»
  refine wpAny_bind (wpAny_of_eq (a := true) rfl ?_)
  refine bm_if_false rfl ?_
  refine wpAny_bind (wpAny_of_eq F.bm_sub ?_)
  refine bm_if_false rfl ?_
  refine wpAny_bind (wpAny_of_eq (F.bm_bind _) ?_)
  refine wpAny_bind (wpAny_of_eq (a := ()) rfl ?_)
  refine wpAny_bind (wpAny_of_eq (a := ()) rfl ?_)
  refine bm_if_false rfl ?_
  refine wpAny_bind (wpAny_specialOf (typeIs ho) look_bytes ?_)
  refine wpAny_bind (wpAny_bind ?_)
  show wpAny _ _ (load a >>= _) _ _ _
  refine wpAny_bind (wpAny_load ho ?_)
  refine wpAny_pure (wpAny_pure ?_)
  refine bm_if_false rfl ?_
  refine wpAny_bind (wpAny_specialOf (typeIs ho) look_index ?_)
  refine bm_if_true rfl ?_
  first
    | show wpAny _ _ (Builtin.Bytes.buffer? "bytes.__new__" (.ref a) true >>= _) _ _ _
    | (refine wpAny_bind ?_; show wpAny _ _ (Builtin.Bytes.buffer? "bytes.__new__" (.ref a) true >>= _) _ _ _)
  refine wpAny_bind (buffer ho ?_)
  refine wpAny_bind (wpAny_rule ?_)
  refine wpAny_bind (wpAny_mkBytes ?_ (by rw [sizeLine_eq]; exact hz))
  show wpAny _ _ (if (Value.type "bytes" == Value.type "bytes") = true then _ else _) _ _ _
  refine bm_if_true (by decide) ?_
  first
    | exact wpAny_pure (hQ _)
    | exact wpAny_bind (wpAny_pure (wpAny_pure (hQ _)))
    | exact wpAny_bind (wpAny_pure (wpAny_bind (wpAny_pure (wpAny_pure (hQ _)))))
theorem bytes_of_ba {Q : Value → Shared → Prop} (ho : s.heap.get? a = some (obj b)) (hz : b.size ≤ 16777216) (hQ : ∀ t k, Q (.bytes b t) { s with toks := k }) :
    wpAny (model prog w) A (call (.type "bytes") [.ref a]) Q E s := by
  refine callType_codes (Q₁ := fun obj s₁ => s₁.TypeIs obj "bytes" ∧ Q obj s₁) F.bm_called (F.bm_typeCall _) F.entry_object_init
    (bytes_new_ba ho hz fun t => ⟨typeIs_bytes _ _ _, hQ t _⟩) fun obj s₁ h₁ => ?_
  exact ⟨h₁.1, F.args_object_init_2 obj _, object_init_meets F.bm_called.init.lookup F.bm_called.made (by decide) prog w A.in1 _ s₁ ⟨h₁.1, rfl, h₁.2⟩⟩

theorem bytes_new_int {n : Int} {u : Tok} {Q : Value → Shared → Prop} (h0 : 0 ≤ n) (h1 : n ≤ 16777216) (hQ : ∀ t, Q (.bytes (Array.replicate n.toNat 0) t) { s with toks := s.toks + 1 }) :
    codeAny (model prog w) A (.call (.builtin "bytes.__new__") ⟨[.type "bytes", .int n u], []⟩) (wants Q E) s := by
  refine codeAny_of_tree ?_
  show wpAny _ A.in1 (do checkBuiltinCall "bytes.__new__" ⟨[.type "bytes", .int n u], []⟩; again (.builtin "bytes.__new__" ⟨[.type "bytes", .int n u], []⟩)) _ _ s
  refine wpAny_bind (wpAny_of_eq (F.bm_newCall _) (wpAny_pure ⟨plainId_quiet F.bm_plain _, codeAny_builtin F.bm_entry ?_⟩))
  rw [Around.under_plainId F.bm_plain _]
  unfold Builtin.«bytes.__new__»
  refine wpAny_bind (wpAny_of_eq (a := true) rfl ?_)
  refine bm_if_false rfl ?_
  refine wpAny_bind (wpAny_of_eq F.bm_sub ?_)
  refine bm_if_false rfl ?_
  refine wpAny_bind (wpAny_of_eq (F.bm_bind _) ?_)
  refine wpAny_bind (wpAny_of_eq (a := ()) rfl ?_)
  refine wpAny_bind (wpAny_of_eq (a := ()) rfl ?_)
  refine bm_if_false rfl ?_
  refine wpAny_bind (wpAny_specialOf (T := "int") (typeIs_int _ _ _) int_no_bytes ?_)
  refine wpAny_bind (wpAny_of_eq (a := false) rfl ?_)
  refine bm_if_false rfl ?_
  refine wpAny_bind (wpAny_specialOf (T := "int") (typeIs_int _ _ _) F.slot_int_index.lookup ?_)
  refine bm_if_false rfl ?_
  refine wpAny_bind (wpAny_attempt (wpAny_of_eq (a := n) rfl ?_))
  have hf : Bytes.fitsIndex n = true := by simp only [Bytes.fitsIndex, Bool.and_eq_true, decide_eq_true_eq]; omega
  refine bm_if_false (by rw [hf]; rfl) ?_
  refine wpAny_ite (KBy.ite_no (by omega) ?_)
  refine wpAny_ite (KBy.ite_no (by omega) ?_)
  refine bm_if_false (KBy.tooLong_not (by omega)) ?_
  refine wpAny_bind (wpAny_rule ?_)
  refine wpAny_bind (wpAny_mkBytes ?_ (by rw [Array.size_replicate, sizeLine_eq]; omega))
  show wpAny _ _ (if (Value.type "bytes" == Value.type "bytes") = true then _ else _) _ _ _
  refine bm_if_true (by decide) ?_
  first
    | exact wpAny_pure (hQ _)
    | exact wpAny_bind (wpAny_pure (wpAny_pure (hQ _)))
    | exact wpAny_bind (wpAny_pure (wpAny_bind (wpAny_pure (wpAny_pure (hQ _)))))
theorem bytes_of_int {n : Int} {u : Tok} {Q : Value → Shared → Prop} (h0 : 0 ≤ n) (h1 : n ≤ 16777216) (hQ : ∀ t k, Q (.bytes (Array.replicate n.toNat 0) t) { s with toks := k }) :
    wpAny (model prog w) A (call (.type "bytes") [.int n u]) Q E s := by
  refine callType_codes (Q₁ := fun obj s₁ => s₁.TypeIs obj "bytes" ∧ Q obj s₁) F.bm_called (F.bm_typeCall _) F.entry_object_init
    (bytes_new_int h0 h1 fun t => ⟨typeIs_bytes _ _ _, hQ t _⟩) fun obj s₁ h₁ => ?_
  exact ⟨h₁.1, F.args_object_init_2 obj _, object_init_meets F.bm_called.init.lookup F.bm_called.made (by decide) prog w A.in1 _ s₁ ⟨h₁.1, rfl, h₁.2⟩⟩

def ByteAt (b : Array UInt8) (i : Nat) (v : Value) : Prop := ∃ c u, b[i]? = some c ∧ v = .int (c.toNat : Int) u
theorem extend_ba {R : Result → Shared → Prop} (hh : A.handled = none) (S : Addr) (res : Value) (c₀ : Nat) (ho : s.heap.get? a = some (obj b)) (hS : s.heap.get? S = some { cls := .type "list", data := .seq #[] c₀ }) (hSa : S ≠ a)
    (hR : ∀ h' tk acc' c', (∀ b o, b ≠ S → s.heap.get? b = some o → h'.get? b = some o) → h'.get? S = some { cls := .type "list", dict := none, data := .seq acc' c', slots := #[] } →
      ItemsOf (ByteAt b) acc' b.size → R (.ok (.ret res)) { s with heap := h', toks := tk }) (hn : b.size ≤ 16777216) :
    wpAny (model prog w) A.in1 (Builtin.List.listExtendWith (.ref S) (.ref a) res)
      (fun fin s' => match fin with | .done f => R (.ok f) s' | .again c' => c'.quiet = true ∧ codeAny (model prog w) A c' R s') (fun e s' => R (.error e) s') s := by
  have hlt : a < s.heap.objs.size := Heap.lt_size ho
  have hSI : S ≠ s.heap.objs.size := Nat.ne_of_lt (Heap.lt_size hS)
  have hSf : S ∉ [s.heap.objs.size, a] := fun hm => by
    rcases List.mem_cons.mp hm with e | hm
    · exact hSI e
    · exact hSa (List.mem_singleton.mp hm)
  have hn' : b.size ≤ sizeLine := by rw [sizeLine_eq]; exact hn
  unfold Builtin.List.listExtendWith
  refine wpAny_bind (wpAny_typeOf (typeIs ho) ?_)
  have h1 : Builtin.List.listSameRef (.ref S) (.ref a) = false := by simp [Builtin.List.listSameRef, hSa]
  have h2 : (Value.type "bytearray" == Value.type "list") = false := by decide
  have h3 : (Value.type "bytearray" == Value.type "tuple") = false := by decide
  simp only [h1, h2, h3, Bool.or_false, Bool.false_eq_true, if_false]
  refine wpAny_bind (pyIter ho ?_)
  have ho₁ : (s.heap.push { cls := .type "bytearray_iterator", data := .fields #[.ref a, .int 0 0] }).get? a = some (obj b) := Heap.get?_push_of_some _ ho
  refine wpAny_bind (wpAny_holding ?_)
  unfold Builtin.List.listLengthHint
  refine wpAny_bind (wpAny_specialOf (typeIs (s := { s with heap := _ }) ho₁) slot_len.lookup ?_)
  wp_delta
  refine wpAny_bind (wpAny_isInstance (T := "bytearray") (v := .ref a) (b := true) (typeIs (s := { s with heap := _ }) ho₁) sub_self ?_)
  show wpAny _ _ (typeOf (Value.ref a) >>= _) _ _ _
  refine wpAny_bind (wpAny_typeOf (typeIs (s := { s with heap := _ }) ho₁) ?_)
  refine wpAny_pure ?_
  rw [if_neg (by decide)]
  have W := walks (prog := prog) (w := w) (A := A.in1) hh s.heap.objs.size a (Nat.ne_of_lt hlt) b
  refine wpAny_pure ⟨plainId_quiet F.plain_extend_loop _, codeAny_extend_loopS W.toS hn' _ hSf _ b.size 0 _ _ _ rfl (Nat.zero_le _) ⟨⟨_, Heap.get?_push_size _ rfl, rfl, rfl⟩, ho₁⟩ (Heap.get?_push_of_some _ hS) (ItemsOf.nil _) fun s' acc' c' hm hS' hacc => ?_⟩
  rw [Moved.eq_with hm]
  refine hR s'.heap s'.toks acc' c' (fun x ob hx e => hm.heap x ob (fun hmem => ?_) (Heap.get?_push_of_some _ e)) hS' hacc
  rcases List.mem_cons.mp hmem with e' | hmem
  · exact hx e'
  · exact absurd (Heap.lt_size e) (by rw [List.mem_singleton.mp hmem]; exact Nat.lt_irrefl _)
theorem list_of_ba {Q : Value → Shared → Prop} (hh : A.handled = none) (ho : s.heap.get? a = some (obj b)) (hn : b.size ≤ 16777216)
    (hQ : ∀ h' tk acc' c', (∀ b o, s.heap.get? b = some o → h'.get? b = some o) →
      h'.get? s.heap.objs.size = some { cls := .type "list", dict := none, data := .seq acc' c', slots := #[] } → ItemsOf (ByteAt b) acc' b.size → Q (.ref s.heap.objs.size) { s with heap := h', toks := tk }) :
    wpAny (model prog w) A (call (.type "list") [.ref a]) Q E s := by
  have hlt : a < s.heap.objs.size := Heap.lt_size ho
  refine callType_codes (Q₁ := fun obj s₁ => obj = .ref s.heap.objs.size ∧ s₁ = { s with heap := s.heap.push { cls := .type "list", data := .seq #[] } }) F.called_list (F.typeCall_list_1 _) F.entry_list_init
    (code_list_new _ ⟨rfl, rfl⟩) fun obj s₁ h₁ => ?_
  obtain ⟨rfl, rfl⟩ := h₁
  have hS : (s.heap.push { cls := .type "list", data := .seq #[] }).get? s.heap.objs.size = some { cls := .type "list", data := .seq #[] } := Heap.get?_push_size _ rfl
  refine ⟨⟨_, hS, rfl⟩, F.args_list_init_2 _ _, ?_⟩
  show wpAny _ _ (do let old ← Builtin.List.listItems (.ref s.heap.objs.size); Builtin.List.listUpdate (.ref s.heap.objs.size) (fun _ => #[]); letGo old.toList.reverse; Builtin.List.listExtendWith (.ref s.heap.objs.size) (.ref a) .none) _ _ _
  refine wpAny_bind ?_
  unfold Builtin.List.listItems
  refine wpAny_bind (wpAny_seqItems hS rfl (wpAny_pure ?_))
  show wpAny _ _ (updateSeq s.heap.objs.size (fun _ => #[]) >>= fun _ => letGo (#[] : Array Value).toList.reverse >>= fun _ => Builtin.List.listExtendWith (.ref s.heap.objs.size) (.ref a) .none) _ _ _
  refine wpAny_bind (wpAny_updateSeq hS rfl ?_)
  have hS₂ := Heap.get?_update_self (Obj.mapSeq (fun _ => (#[] : Array Value))) hS rfl
  have hne : a ≠ s.heap.objs.size := Nat.ne_of_lt hlt
  have oth : ∀ b o, b ≠ s.heap.objs.size → s.heap.get? b = some o → ((s.heap.push { cls := .type "list", data := .seq #[] }).update s.heap.objs.size (Obj.mapSeq (fun _ => (#[] : Array Value)))).get? b = some o :=
    fun b o hb e => (Heap.get?_update_other _ _ (Ne.symm hb)).trans (Heap.get?_push_of_some _ e)
  refine wpAny_bind (wpAny_letGo ?_)
  refine extend_ba (A := A.in1) hh s.heap.objs.size .none _ (oth a _ hne ho) hS₂ (Ne.symm hne) (fun h' tk acc' c' hk hS' hacc => ?_) hn
  exact ⟨rfl, hQ h' tk acc' c' (fun b o e => hk b o (Nat.ne_of_lt (Heap.lt_size e)) (oth b o (Nat.ne_of_lt (Heap.lt_size e)) e)) hS' hacc⟩

theorem grown {n : Nat} {M : Model} {Q : Value → Shared → Prop} (hn : n < 2 ^ 1024) (h : Q (.int (n : Int) s.toks) { s with toks := s.toks + 1 }) : wpAny M A (mkIntGrown (n : Int)) Q E s := by
  unfold mkIntGrown
  have hl : ¬ ((n : Int).natAbs.log2 ≥ bitsLine) := by
    rw [Int.natAbs_natCast, bitsLine_eq]
    by_cases hz : n = 0
    · subst hz; decide
    · have h1 := (Nat.log2_lt hz).mpr hn
      omega
  rw [if_neg hl]
  exact wpAny_mkInt h
theorem tree_big {M : Model} {t u : Tok} {P : PySem.Fin → Shared → Prop} (hl : b.size ≤ 64) (h : P (.done (.ret (.int (KFB.value (KBw.bInts b)) s.toks))) { s with toks := s.toks + 1 }) :
    wpAny M A (Builtin.«int.from_bytes» ⟨[.type "int", .bytes b t, .str (Str.ofString "big") u], []⟩) P E s := by
  have hv : ((b.toList.foldl (fun (acc : Nat) (b : UInt8) => acc * 256 + b.toNat) 0 : Nat) : Int) = KFB.value (KBw.bInts b) := KFB.fold_cast b.toList 0
  have hn : b.toList.foldl (fun (acc : Nat) (b : UInt8) => acc * 256 + b.toNat) 0 < 2 ^ 1024 := by
    have h1 := KFB.fold_lt b.toList 0
    rw [Nat.zero_add, Nat.one_mul, Array.length_toList] at h1
    have h2 : 256 ^ b.size ≤ 256 ^ 64 := Nat.pow_le_pow_right (by decide) hl
    have h3 : (256 : Nat) ^ 64 ≤ 2 ^ 1024 := by decide
    exact Nat.lt_of_lt_of_le h1 (Nat.le_trans h2 h3)
  unfold Builtin.«int.from_bytes»
  refine wpAny_bind (wpAny_of_eq (a := true) KFB.type_int ?_)
  refine bm_if_false rfl ?_
  refine wpAny_bind (wpAny_of_eq (a := true) F.conv_sub_int ?_)
  refine bm_if_false rfl ?_
  refine wpAny_bind (wpAny_of_eq (a := [some (.bytes b t), some (.str (Str.ofString "big") u), none]) (by kernel_rfl) ?_)
  refine wpAny_bind (wpAny_of_eq (a := Str.ofString "big") (by kernel_rfl) ?_)
  refine wpAny_bind (wpAny_of_eq (a := false) rfl ?_)
  refine wpAny_bind (wpAny_of_eq (a := false) (by kernel_rfl) ?_)
  refine wpAny_bind (wpAny_of_eq (a := b) rfl ?_)
  show wpAny _ _ (mkIntGrown (b.toList.foldl (fun (acc : Int) (b : UInt8) => acc * 256 + (b.toNat : Int)) ((0 : Nat) : Int)) >>= fun v => _) _ _ _
  rw [KFB.foldI_eq]
  refine wpAny_bind (grown hn ?_)
  rw [hv]
  refine bm_if_true (by decide +kernel) ?_
  exact wpAny_bind (wpAny_pure (wpAny_pure h))
theorem from_big {x : Addr} {t u : Tok} {Q : Value → Shared → Prop} (ho : KFB.StandsAt x s.heap) (hl : b.size ≤ 64)
    (h : Q (.int (KFB.value (KBw.bInts b)) s.toks) { s with toks := s.toks + 1 }) : wpAny (model prog w) A (call (.ref x) [.bytes b t, .str (Str.ofString "big") u]) Q E s :=
  KFB.call_of ho (fun z => tree_big hl z) h
end
end Ba
end Mine
end

/-! part BaC -/
section
open PySem PySem.W PyProof.Rows PySem.Calls PyProof.V PySem.Spec PySem.Builtin
set_option maxRecDepth 100000
set_option maxHeartbeats 4000000
namespace Mine
theorem wpC_ite {α : Type} {M : Model} {A : Around} {E : Value → Shared → Prop} {s : Shared} {c : Prop} [Decidable c] {a b : Sem α} {Q : α → Shared → Prop} (h : if c then wpC M A a Q E s else wpC M A b Q E s) :
    wpC M A (if c then a else b) Q E s := by split <;> simp_all
theorem wpC_no {α : Type} {M : Model} {A : Around} {E : Value → Shared → Prop} {s : Shared} {c : Bool} {a b : Sem α} {Q : α → Shared → Prop} (hc : c = false) (h : wpC M A b Q E s) : wpC M A (if c = true then a else b) Q E s := by
  subst hc; exact h
theorem wpC_yes {α : Type} {M : Model} {A : Around} {E : Value → Shared → Prop} {s : Shared} {c : Bool} {a b : Sem α} {Q : α → Shared → Prop} (hc : c = true) (h : wpC M A a Q E s) : wpC M A (if c = true then a else b) Q E s := by
  subst hc; exact h
theorem wpC_stepEq {α β : Type} {M : Model} {A : Around} {E : Value → Shared → Prop} {s : Shared} {m : Sem α} {f : α → Sem β} {a : α} {Q : β → Shared → Prop} (e : m = pure a) (h : wpC M A (f a) Q E s) : wpC M A (m >>= f) Q E s := by
  subst e; exact wpC_step (wpAny_pure h)
section
variable {prog : Program} {w : World} {A : Around} {E : Value → Shared → Prop} {s : Shared}
theorem codeC_builtin {R : Result → Shared → Prop} {id : String} {args : Args} {b : Builtin} (hok : lends id = false) (hb : entryFor table id = some b)
    (h : wpC (model prog w) (A.under (.builtin id args)) (b args)
      (fun fin s' => match fin with | .done f => R (.ok f) s' | .again c' => c'.quiet = true ∧ codeC (model prog w) A c' R s') (fun e s' => R (.error e) s') s) :
    codeC (model prog w) A (.builtin id args) R s := by
  refine codeC_of_tree (by show (!lends id) = true; rw [hok]; rfl) ?_
  show wpC _ _ (match entryFor table id with | some b => b args | none => unsupported ((withoutEnding? id "#data").getD id)) _ _ s
  rw [hb]; exact h
end
namespace Ba
theorem slot_init : Slot "bytearray" "__init__" "bytearray.__init__" :=
  .of (owner := "bytearray") (n := "__init__") (by rw [typeLookup_type, builtinLookup_eq_fast]; kernel_rfl) (by decide +kernel) (by decide +kernel) (by decide +kernel)
    (by first | exact .inl (by decide +kernel) | exact .inr (by decide +kernel)) (by rw [isSubtype_type]; kernel_rfl)
theorem mro : mroOf (.type "bytearray") = pure [.type "bytearray", .type "object"] := by rw [mroOf_type]; kernel_rfl
theorem lookup_new : typeLookup (.type "bytearray") "__new__" = pure (some (.builtin "bytearray.__new__")) := by rw [typeLookup_type, builtinLookup_eq_fast]; kernel_rfl
theorem called : TypeCalled "bytearray" "bytearray.__new__" "bytearray.__init__" :=
  ⟨by decide +kernel, by decide +kernel, ⟨_, _, mro⟩, madeBy_type mro lookup_new (by decide +kernel), by decide +kernel, by rw [isSubtype_type]; kernel_rfl, slot_init⟩
theorem typeCall (a : Value) : checkTypeCall "bytearray" ⟨[a], []⟩ = pure () := by kernel_rfl
theorem newCall (a : Value) : checkBuiltinCall "bytearray.__new__" ⟨[.type "bytearray", a], []⟩ = pure () := by kernel_rfl
theorem entry_new : entryFor table "bytearray.__new__" = some Builtin.«list.__new__» := entryFor_alias (id' := "list.__new__") (by kernel_rfl) (by first | rfl | decide +kernel) (by decide +kernel) (by kernel_rfl)
theorem plain_new : plainId "bytearray.__new__" = true := by decide +kernel
theorem plain_init : plainId "bytearray.__init__" = true := by decide +kernel
set_option maxRecDepth 1000000 in
set_option maxHeartbeats 4000000
theorem owner_new : ("bytearray.__new__".splitOn ".__new__").headD "" = "bytearray" := by simp +decide [String.splitOn, String.splitOnAux]
theorem args_init (a b : Value) : argsOk "bytearray.__init__" ⟨[a, b], []⟩ := by unfold argsOk; kernel_rfl
theorem init_bind (v : Value) : Bytes.bindOptional "bytearray.__init__" "bytearray" ["source", "encoding", "errors"] [v] [] = pure [some v, none, none] := by kernel_rfl
theorem list_no_index : typeLookup (.type "list") "__index__" = pure none := by rw [typeLookup_type, builtinLookup_eq_fast]; kernel_rfl
theorem list_no_buffer : typeLookup (.type "list") "__buffer__" = pure none := by rw [typeLookup_type, builtinLookup_eq_fast]; kernel_rfl
theorem bytes_no_index : typeLookup (.type "bytes") "__index__" = pure none := by rw [typeLookup_type, builtinLookup_eq_fast]; kernel_rfl

section
variable {prog : Program} {w : World} {A : Around} {E : Value → Shared → Prop} {s : Shared} {b : Array UInt8} {a : Addr}
theorem code_new (v : Value) {Q₁ : Value → Shared → Prop} (h : Q₁ (.ref s.heap.objs.size) { s with heap := s.heap.push (obj #[]) }) :
    codeAny (model prog w) A (.call (.builtin "bytearray.__new__") ⟨[.type "bytearray", v], []⟩) (wants Q₁ E) s := by
  refine codeAny_of_tree ?_
  show wpAny _ A.in1 (do checkBuiltinCall "bytearray.__new__" ⟨[.type "bytearray", v], []⟩; again (.builtin "bytearray.__new__" ⟨[.type "bytearray", v], []⟩)) _ _ s
  refine wpAny_bind (wpAny_of_eq (newCall v) (wpAny_pure ⟨plainId_quiet plain_new _, codeAny_builtin_stack entry_new rfl fun p st => ?_⟩))
  rw [Around.under_plainId plain_new _]
  have hsub := sub_self
  have hown := owner_new
  obtain ⟨hp, g, d, tk, os⟩ := s
  simp only [hown]
  wp_walk
  exact h

theorem any_no {Q : Bool → Shared → Prop} {l : List (Code × Pos)} {F : Code × Pos → Bool} (hF : ∀ x ∈ l, F x = false) (h : Q false s) : Q (l.any F) s := by
  have e : l.any F = false := by
    rw [List.any_eq_false]
    intro x hx
    rw [hF x hx]; exact Bool.false_ne_true
  rw [e]; exact h
theorem exported {self : Value} {Q : Bool → Shared → Prop} (h : Q false s) : wpC (model prog w) A (Bytes.exported self) Q E s := by
  unfold Bytes.exported
  refine wpC_bind (wpC_stack fun st hst => wpC_pure (any_no (fun x hx => ?_) h))
  have hc := hst x hx
  split
  · exact absurd hc (by show ¬ ((!lends "bytearray.__contains__") = true); decide +kernel)
  · exact absurd hc (by show ¬ ((!lends "bytearray.__mod__") = true); decide +kernel)
  · exact absurd hc (by show ¬ ((!lends "bytearray.__rmod__") = true); decide +kernel)
  · exact absurd hc (by show ¬ ((!lends "_struct.pack_into.held") = true); decide +kernel)
  · exact absurd hc (by show ¬ ((!lends "bytearray.find.held") = true); decide +kernel)
  · have h1 := hc
    unfold okC at h1
    dsimp only at h1
    unfold lends at h1
    rw [Bool.not_eq_true', Bool.or_eq_false_iff] at h1
    rw [h1.2, Bool.and_false]
  · rfl
end
end Ba
end Mine
end

/-! part BaC2 -/
section
open PySem PySem.W PyProof.Rows PySem.Calls PyProof.V PySem.Spec PySem.Builtin
set_option maxRecDepth 100000
set_option maxHeartbeats 4000000
namespace Mine
namespace Ba
section
variable {prog : Program} {w : World} {A A₂ : Around} {E : Value → Shared → Prop} {s : Shared} {b : Array UInt8} {a S : Addr}

abbrev FinOk (prog : Program) (w : World) (A : Around) (R : Result → Shared → Prop) : PySem.Fin → Shared → Prop := fun fin s' => match fin with | .done f => R (.ok f) s' | .again c' => c'.quiet = true ∧ codeC (model prog w) A c' R s'
theorem exportsOf {Q : Nat → Shared → Prop} (ho : s.heap.get? a = some (obj b)) (h : Q 0 s) : wpAny (model prog w) A (Bytes.exportsOf (.ref a)) Q E s := by
  unfold Bytes.exportsOf
  exact wpAny_bind (wpAny_load ho (wpAny_pure h))
theorem asStr_ba {Q : Option Str → Shared → Prop} (ho : s.heap.get? a = some (obj b)) (h : Q none s) : wpAny (model prog w) A (asStr? (.ref a)) Q E s := by
  unfold asStr?
  exact wpAny_bind (wpAny_load ho (wpAny_pure h))
theorem buffer_bytes {id : String} {full : Bool} {c : Array UInt8} {t : Tok} : Bytes.buffer? id (.bytes c t) full = pure (some c) := by
  unfold Bytes.buffer?
  rw [KBy.special_eq KBy.look_buffer, KBy.own_buffer, KBy.own_release]
  kernel_rfl

theorem init_ba {R : Result → Shared → Prop} (hS : s.heap.get? S = some (obj #[])) (ho : s.heap.get? a = some (obj b)) (hne : a ≠ S) (hz : b.size ≤ 16777216)
    (h : ∀ h', h'.get? S = some (obj b) → Heap.ExtBut S s.heap h' → R (.ok (.ret .none)) { s with heap := h' }) :
    wpC (model prog w) A (Builtin.«bytearray.__init__» ⟨[.ref S, .ref a], []⟩) (FinOk prog w A₂ R) (fun e s' => R (.error e) s') s := by
  unfold Builtin.«bytearray.__init__»
  refine wpC_step (ownRelease hS ?_)
  refine wpC_no rfl ?_
  refine wpC_stepEq (init_bind _) ?_
  refine wpC_stepEq (a := ()) rfl ?_
  refine wpC_stepEq (a := ()) rfl ?_
  refine wpC_bind (wpC_bind (exported ?_))
  refine wpC_step (exportsOf hS ?_)
  refine wpC_pure ?_
  refine wpC_no rfl ?_
  refine wpC_step (write hS (Nat.zero_le _) fun h2 hs2 => ?_)
  have ho2 := hs2.extBut a _ hne ho
  refine wpC_step (asStr_ba (s := { s with heap := _ }) ho2 ?_)
  refine wpC_no rfl ?_
  refine wpC_stepEq (a := ()) rfl ?_
  refine wpC_step (wpAny_specialOf (typeIs (s := { s with heap := _ }) ho2) look_index ?_)
  refine wpC_no rfl ?_
  refine wpC_step (buffer (s := { s with heap := _ }) ho2 ?_)
  refine wpC_step (wpAny_rule ?_)
  refine wpC_step (write (s := { s with heap := _ }) h2 (by rw [sizeLine_eq]; exact hz) fun h3 hs3 => ?_)
  refine wpC_pure (h _ h3 fun x o hx e => hs3.extBut x o hx (hs2.extBut x o hx e))

theorem init_bytes {R : Result → Shared → Prop} {t : Tok} (hS : s.heap.get? S = some (obj #[])) (hz : b.size ≤ 16777216)
    (h : ∀ h', h'.get? S = some (obj b) → Heap.ExtBut S s.heap h' → R (.ok (.ret .none)) { s with heap := h' }) :
    wpC (model prog w) A (Builtin.«bytearray.__init__» ⟨[.ref S, .bytes b t], []⟩) (FinOk prog w A₂ R) (fun e s' => R (.error e) s') s := by
  unfold Builtin.«bytearray.__init__»
  refine wpC_step (ownRelease hS ?_)
  refine wpC_no rfl ?_
  refine wpC_stepEq (init_bind _) ?_
  refine wpC_stepEq (a := ()) rfl ?_
  refine wpC_stepEq (a := ()) rfl ?_
  refine wpC_bind (wpC_bind (exported ?_))
  refine wpC_step (exportsOf hS ?_)
  refine wpC_pure ?_
  refine wpC_no rfl ?_
  refine wpC_step (write hS (Nat.zero_le _) fun h2 hs2 => ?_)
  refine wpC_stepEq (a := none) (by kernel_rfl) ?_
  refine wpC_no rfl ?_
  refine wpC_stepEq (a := ()) rfl ?_
  refine wpC_step (wpAny_specialOf (typeIs_bytes _ b t) bytes_no_index ?_)
  refine wpC_no rfl ?_
  refine wpC_stepEq buffer_bytes ?_
  refine wpC_step (wpAny_rule ?_)
  refine wpC_step (write (s := { s with heap := _ }) h2 (by rw [sizeLine_eq]; exact hz) fun h3 hs3 => ?_)
  refine wpC_pure (h _ h3 fun x o hx e => hs3.extBut x o hx (hs2.extBut x o hx e))

theorem take_all {vs : List Value} {ns : List Int} (hi : IntsAre vs ns) (hr : ∀ n ∈ ns, 0 ≤ n ∧ n < 256) {f : Value → Bool} (hf : ∀ i t, f (.int i t) = (decide (0 ≤ i) && decide (i < 256))) : vs.takeWhile f = vs := by
  induction hi with
  | nil => rfl
  | cons i t hi ih =>
    have h1 := hr i (.head _)
    rw [List.takeWhile_cons, hf, ih fun n hn => hr n (.tail _ hn)]
    simp [h1.1, h1.2]
theorem map_all {vs : List Value} {ns : List Int} (hi : IntsAre vs ns) {f : Value → Option UInt8} (hf : ∀ i t, f (.int i t) = some i.toNat.toUInt8) : vs.filterMap f = ns.map fun n => n.toNat.toUInt8 := by
  induction hi with
  | nil => rfl
  | cons i t hi ih => rw [List.filterMap_cons, hf, ih]; rfl
theorem asStr_list {vs : Array Value} {l : Addr} {Q : Option Str → Shared → Prop} (ho : s.heap.IsList l vs) (h : Q none s) : wpAny (model prog w) A (asStr? (.ref l)) Q E s := by
  obtain ⟨o, ho, hc, n, hd⟩ := ho
  unfold asStr?
  refine wpAny_bind (wpAny_load ho ?_)
  rw [hd]
  exact wpAny_pure h
theorem init_list {R : Result → Shared → Prop} {l : Addr} {vs : List Value} {ns : List Int} (hS : s.heap.get? S = some (obj #[])) (hl : s.heap.IsList l vs.toArray) (hi : IntsAre vs ns) (hr : ∀ n ∈ ns, 0 ≤ n ∧ n < 256) (hne : l ≠ S) (hz : ns.length ≤ 16777216)
    (h : ∀ h', h'.get? S = some (obj (byteArr ns)) → Heap.ExtBut S s.heap h' → R (.ok (.ret .none)) { s with heap := h' }) :
    wpC (model prog w) A (Builtin.«bytearray.__init__» ⟨[.ref S, .ref l], []⟩) (FinOk prog w A₂ R) (fun e s' => R (.error e) s') s := by
  unfold Builtin.«bytearray.__init__»
  refine wpC_step (ownRelease hS ?_)
  refine wpC_no rfl ?_
  refine wpC_stepEq (init_bind _) ?_
  refine wpC_stepEq (a := ()) rfl ?_
  refine wpC_stepEq (a := ()) rfl ?_
  refine wpC_bind (wpC_bind (exported ?_))
  refine wpC_step (exportsOf hS ?_)
  refine wpC_pure ?_
  refine wpC_no rfl ?_
  refine wpC_step (write hS (Nat.zero_le _) fun h2 hs2 => ?_)
  have hl2 : (s.heap.update S (Obj.mapBytearray fun _ => #[])).IsList l vs.toArray := hl.extBut hs2.extBut hne
  have hT2 : ({ s with heap := s.heap.update S (Obj.mapBytearray fun _ => #[]) } : Shared).TypeIs (.ref l) "list" := Heap.IsList.typeIs (s := { s with heap := s.heap.update S (Obj.mapBytearray fun _ => #[]) }) hl2
  refine wpC_step (asStr_list (s := { s with heap := s.heap.update S (Obj.mapBytearray fun _ => #[]) }) hl2 ?_)
  refine wpC_no rfl ?_
  refine wpC_stepEq (a := ()) rfl ?_
  refine wpC_step (wpAny_specialOf hT2 list_no_index ?_)
  refine wpC_no rfl ?_
  refine wpC_bind ?_
  unfold Bytes.buffer?
  refine wpC_step (wpAny_specialOf hT2 list_no_buffer ?_)
  refine wpC_step (wpAny_specialOf hT2 list_no_buffer ?_)
  refine wpC_pure ?_
  refine wpC_step (wpAny_typeOf hT2 ?_)
  refine wpC_yes rfl ?_
  obtain ⟨ol, hol, hoc, nl, hod⟩ := id hl2
  refine wpC_step (wpAny_seqItems hol hod ?_)
  dsimp only
  rw [take_all hi hr fun i t => rfl, map_all hi fun i t => rfl]
  have e : vs.toArray[vs.length]? = none := by simp
  rw [e]
  refine wpC_step (wpAny_rule ?_)
  refine wpC_step (write (s := { s with heap := _ }) h2 (by show (byteArr ns).size ≤ sizeLine; rw [byteArr_size, sizeLine_eq]; exact hz) fun h3 hs3 => ?_)
  exact wpC_pure (h _ h3 fun x o hx e => hs3.extBut x o hx (hs2.extBut x o hx e))
end
end Ba
end Mine
end

/-! part BaC3 -/
section
open PySem PySem.W PyProof.Rows PySem.Calls PyProof.V PySem.Spec PySem.Builtin
set_option maxRecDepth 100000
set_option maxHeartbeats 4000000
namespace Mine
namespace Ba
section
variable {prog : Program} {w : World} {A A₂ : Around} {E : Value → Shared → Prop} {s : Shared} {b c : Array UInt8} {a : Addr}
theorem call_type {v : Value} {Q : Value → Shared → Prop}
    (hinit : ∀ (A A₂ : Around) (R : Result → Shared → Prop), (∀ h', h'.get? s.heap.objs.size = some (obj c) → Heap.ExtBut s.heap.objs.size (s.heap.push (obj #[])) h' → R (.ok (.ret .none)) { s with heap := h' }) →
      wpC (model prog w) A (Builtin.«bytearray.__init__» ⟨[.ref s.heap.objs.size, v], []⟩) (FinOk prog w A₂ R) (fun e s' => R (.error e) s') { s with heap := s.heap.push (obj #[]) })
    (h : ∀ h', h'.get? s.heap.objs.size = some (obj c) → (∀ x o, s.heap.get? x = some o → h'.get? x = some o) → Q (.ref s.heap.objs.size) { s with heap := h' }) :
    wpC (model prog w) A (call (.type "bytearray") [v]) Q E s := by
  refine wpC_call (codeC_of_tree rfl ?_)
  show wpC _ _ (callAny (.type "bytearray") _) _ _ _
  refine wpC_pure ⟨Code.quiet_builtin _ (by decide +kernel), codeC_builtin (by decide +kernel) F.entry_type_call ?_⟩
  rw [Around.under_plain (weight_type_call_type "bytearray" [v] []) rfl]
  unfold Builtin.«type.__call__»
  refine wpC_no rfl ?_
  have hc := called.canCreate
  refine wpC_no hc ?_
  refine wpC_stepEq (typeCall v) ?_
  refine wpC_stepEq mro ?_
  refine wpC_no rfl ?_
  refine wpC_stepEq called.made ?_
  refine wpC_stepEq rfl ?_
  refine wpC_step (wpAny_holding (wpAny_call (code_new v ?_)))
  have hS : (s.heap.push (obj #[])).get? s.heap.objs.size = some (obj #[]) := Heap.get?_push_size _ rfl
  refine wpC_step (wpAny_isInstance (typeIs (s := { s with heap := _ }) hS) sub_self ?_)
  refine wpC_no rfl ?_
  refine wpC_bind (wpC_holding ?_)
  simp only [callSpecial?]
  refine wpC_step (wpAny_specialOf (typeIs (s := { s with heap := _ }) hS) slot_init.lookup ?_)
  refine wpC_holding ?_
  simp only [slot_init.bind]
  refine wpC_stepEq rfl ?_
  refine wpC_bind (wpC_call (codeC_of_tree rfl ?_))
  show wpC _ _ (do checkBuiltinCall "bytearray.__init__" ⟨[.ref s.heap.objs.size, v], []⟩; again (.builtin "bytearray.__init__" ⟨[.ref s.heap.objs.size, v], []⟩)) _ _ _
  refine wpC_step (slot_init.check _ _ _ _ _ _ _ _ (typeIs (s := { s with heap := _ }) hS) (args_init _ _) ?_)
  refine wpC_pure ⟨plainId_quiet plain_init _, codeC_builtin (by decide +kernel) entry_init ?_⟩
  refine wpC_mono (hinit _ A.in1 (fun r s' => r = .ok (.ret .none) ∧ ∃ h', h'.get? s.heap.objs.size = some (obj c) ∧ Heap.ExtBut s.heap.objs.size (s.heap.push (obj #[])) h' ∧ s' = { s with heap := h' }) fun h' h1 h2 => ⟨rfl, h', h1, h2, rfl⟩) (fun fin s' hf => ?_) fun e s' hf => nomatch hf.1
  cases fin with
  | again c' => 
    refine ⟨hf.1, codeC_mono hf.2 ?_⟩
    rintro r s'' ⟨rfl, h', h1, h2, rfl⟩
    show wpC _ _ (pure (some Value.none)) _ _ _
    refine wpC_pure (wpC_no rfl ?_)
    exact wpC_pure (h h' h1 fun x o e => h2 x o (Nat.ne_of_lt (Heap.lt_size e)) (Heap.get?_push_of_some _ e))
  | done f =>
    obtain ⟨hf, h', h1, h2, rfl⟩ := hf
    cases hf
    show wpC _ _ (pure (some Value.none)) _ _ _
    refine wpC_pure (wpC_no rfl ?_)
    exact wpC_pure (h h' h1 fun x o e => h2 x o (Nat.ne_of_lt (Heap.lt_size e)) (Heap.get?_push_of_some _ e))
end
end Ba
end Mine
end

/-! part BaC4 -/
section
open PySem PySem.W PyProof.Rows PySem.Calls PyProof.V PySem.Spec PySem.Builtin
set_option maxRecDepth 100000
set_option maxHeartbeats 4000000
namespace Mine
namespace Ba
theorem sub_list_ba : isSubtype (.type "list") (.type "bytearray") = pure false := by rw [isSubtype_type]; kernel_rfl
theorem sub_list_complex : isSubtype (.type "list") (.type "complex") = pure false := by rw [isSubtype_type]; kernel_rfl
theorem list_no_int : typeLookup (.type "list") "__int__" = pure none := by rw [typeLookup_type, builtinLookup_eq_fast]; kernel_rfl
theorem list_no_float : typeLookup (.type "list") "__float__" = pure none := by rw [typeLookup_type, builtinLookup_eq_fast]; kernel_rfl
section
variable {prog : Program} {w : World} {A A₂ : Around} {E : Value → Shared → Prop} {s : Shared} {b c : Array UInt8} {a : Addr}
theorem new_ba {Q : Value → Shared → Prop} (ho : s.heap.get? a = some (obj b)) (hz : b.size ≤ 16777216)
    (h : ∀ h', h'.get? s.heap.objs.size = some (obj b) → (∀ x o, s.heap.get? x = some o → h'.get? x = some o) → Q (.ref s.heap.objs.size) { s with heap := h' }) :
    wpC (model prog w) A (call (.type "bytearray") [.ref a]) Q E s :=
  call_type (fun _ _ _ hR => init_ba (s := { s with heap := s.heap.push (obj #[]) }) (Heap.get?_push_size _ rfl) (Heap.get?_push_of_some _ ho) (Nat.ne_of_lt (Heap.lt_size ho)) hz fun h' h1 h2 => hR h' h1 h2) h
theorem new_bytes {t : Tok} {Q : Value → Shared → Prop} (hz : b.size ≤ 16777216)
    (h : ∀ h', h'.get? s.heap.objs.size = some (obj b) → (∀ x o, s.heap.get? x = some o → h'.get? x = some o) → Q (.ref s.heap.objs.size) { s with heap := h' }) :
    wpC (model prog w) A (call (.type "bytearray") [.bytes b t]) Q E s :=
  call_type (fun _ _ _ hR => init_bytes (s := { s with heap := s.heap.push (obj #[]) }) (Heap.get?_push_size _ rfl) hz fun h' h1 h2 => hR h' h1 h2) h
theorem new_list {l : Addr} {vs : List Value} {ns : List Int} {Q : Value → Shared → Prop} (hl : s.heap.IsList l vs.toArray) (hi : IntsAre vs ns) (hr : ∀ n ∈ ns, 0 ≤ n ∧ n < 256) (hz : ns.length ≤ 16777216)
    (h : ∀ h', h'.get? s.heap.objs.size = some (obj (byteArr ns)) → (∀ x o, s.heap.get? x = some o → h'.get? x = some o) → Q (.ref s.heap.objs.size) { s with heap := h' }) :
    wpC (model prog w) A (call (.type "bytearray") [.ref l]) Q E s := by
  obtain ⟨o, ho, _⟩ := id hl
  exact call_type (fun _ _ _ hR => init_list (s := { s with heap := s.heap.push (obj #[]) }) (Heap.get?_push_size _ rfl) (hl.push _) hi hr (Nat.ne_of_lt (Heap.lt_size ho)) hz fun h' h1 h2 => hR h' h1 h2) h

theorem setSlice {sl l : Addr} {vs : List Value} {ns : List Int} {lo hi : Int} {t u : Tok} {Q : Unit → Shared → Prop} (ho : s.heap.get? a = some (obj b)) (hs : s.heap.IsSliceOf sl (.int lo t) (.int hi u) .none)
    (hl : s.heap.IsList l vs.toArray) (hne : l ≠ a) (hv : IntsAre vs ns) (hr : ∀ n ∈ ns, 0 ≤ n ∧ n < 256) (h0 : 0 ≤ lo) (h1 : lo ≤ hi) (h2 : hi ≤ b.size) (hn : (ns.length : Int) = hi - lo) (hz : b.size ≤ 16777216)
    (h : ∀ h', h'.get? a = some (obj (b.extract 0 lo.toNat ++ byteArr ns ++ b.extract hi.toNat b.size)) → (∀ x o, x ≠ a → s.heap.get? x = some o → h'.get? x = some o) → Q () { s with heap := h' }) :
    wpC (model prog w) A (PySem.setItem (.ref a) (.ref sl) (.ref l)) Q E s := by
  obtain ⟨os, hos, hsc, hsd⟩ := id hs
  have hT : s.TypeIs (.ref l) "list" := hl.typeIs
  unfold PySem.setItem
  refine wpC_holding (wpC_step (wpAny_sequenceKey (typeIs ho) (by decide) ?_))
  refine wpC_bind ?_
  simp only [callSpecial?]
  refine wpC_step (wpAny_specialOf (typeIs ho) slot_setitem.lookup ?_)
  refine wpC_holding ?_
  simp only [slot_setitem.bind]
  refine wpC_stepEq rfl ?_
  refine wpC_bind (wpC_call (codeC_of_tree rfl ?_))
  show wpC _ _ (do checkBuiltinCall "bytearray.__setitem__" ⟨[.ref a, .ref sl, .ref l], []⟩; again (.builtin "bytearray.__setitem__" ⟨[.ref a, .ref sl, .ref l], []⟩)) _ _ _
  refine wpC_step (slot_setitem.check _ _ _ _ _ _ _ _ (typeIs ho) (args_setitem _ _ _) ?_)
  refine wpC_pure ⟨plainId_quiet slot_setitem.plain _, codeC_builtin (by decide +kernel) entry_setitem ?_⟩
  unfold Builtin.«bytearray.__setitem__»
  refine wpC_no rfl ?_
  refine wpC_step (subscript_slice hs ?_)
  refine wpC_step (wpAny_typeOf (slice_type hs) ?_)
  refine wpC_no rfl ?_
  refine wpC_step (sliceParts hs (.int lo t) (.int hi u) .none (by simp) ?_)
  have hsame : Bytes.sameRef (.ref a) (.ref l) = false := by simp [Bytes.sameRef, Ne.symm hne]
  refine wpC_no hsame ?_
  refine wpC_step (wpAny_isInstance hT sub_list_ba ?_)
  refine wpC_yes rfl ?_
  refine wpC_step (wpAny_bind (wpAny_bind (wpAny_specialOf hT list_no_index (wpAny_pure ?_))))
  refine wpAny_bind (wpAny_bind (wpAny_specialOf hT list_no_int (wpAny_pure ?_)))
  refine wpAny_bind (wpAny_bind (wpAny_specialOf hT list_no_float (wpAny_pure ?_)))
  refine wpAny_isInstance hT sub_list_complex ?_
  refine wpC_step (asStr_list hl ?_)
  refine wpC_no rfl ?_
  refine wpC_step (wpAny_rule ?_)
  refine wpC_bind (new_list hl hv hr (by omega) fun h' hS hk => ?_)
  have ho' := hk _ _ ho
  have hs' : h'.IsSliceOf sl (.int lo t) (.int hi u) .none := ⟨os, hk _ _ hos, hsc, hsd⟩
  refine wpC_step (wpAny_holding (sliceParts (s := { s with heap := h' }) hs' (.int lo t) (.int hi u) .none (by simp) ?_))
  refine wpC_step (payload (s := { s with heap := h' }) hS ?_)
  refine wpC_step (payload (s := { s with heap := h' }) ho' ?_)
  refine wpC_stepEq (sliceIndices_raw (some lo) (some hi) none b.size (by simp)) ?_
  have hb : sliceBounds (some lo) (some hi) none b.size = (lo, hi, 1) := by
    simp only [sliceBounds, Option.getD_none]
    have e1 : ¬ lo < 0 := by omega
    have e2 : ¬ hi < 0 := by omega
    simp only [if_neg e1, if_neg e2, show (1 : Int) > 0 by decide, if_true]
    have e3 : min lo (b.size : Int) = lo := by omega
    have e4 : min hi (b.size : Int) = hi := by omega
    rw [e3, e4]
    have e5 : max 0 lo = lo := by omega
    have e6 : max 0 hi = hi := by omega
    rw [e5, e6]
  rw [hb]
  refine wpC_yes rfl ?_
  refine wpC_step (wpAny_rule ?_)
  have hmax : max lo hi = hi := by omega
  have hsz : (((byteArr ns).size : Int) != max lo hi - lo) = false := by
    rw [hmax, byteArr_size, hn]; simp
  refine wpC_no hsz ?_
  refine wpC_step (write (s := { s with heap := h' }) ho' ?_ fun h3 hs3 => ?_)
  · have : (b.extract 0 lo.toNat ++ byteArr ns ++ b.extract (max lo hi).toNat b.size).size ≤ 16777216 := by
      simp only [Array.size_append, Array.size_extract, byteArr_size]
      omega
    rw [sizeLine_eq]; exact this
  · rw [hmax] at h3 hs3 ⊢
    refine wpC_pure ?_
    show wpC _ _ (pure (some Value.none)) _ _ _
    refine wpC_pure ?_
    exact wpC_pure (h _ h3 fun x o hx e => hs3.extBut x o hx (hk x o e))
end
end Ba
end Mine
end

/-! part Zb -/
section
open PySem PySem.W PyProof.Rows PySem.Calls PyProof.V PySem.Spec PySem.Builtin
set_option maxRecDepth 100000
set_option maxHeartbeats 4000000
namespace Mine
/-! zip over two rows of bytes -/
namespace Zb
section
variable {prog : Program} {w : World} {A : Around} {E : Value → Shared → Prop} {s : Shared} {b : Array UInt8} {t : Tok}
theorem nextOf_item {it : Addr} {i : Nat} {c : UInt8} {Q : Value → Shared → Prop} (hit : KBw.IsBytesIter s.heap it b t i) (hx : b[i]? = some c)
    (hQ : ∀ h' tk, KBw.IsBytesIter h' it b t (i + 1) → Heap.SameBut it s.heap h' → Q (.int (c.toNat : Int) s.toks) { s with heap := h', toks := tk }) : wpAny (model prog w) A (Builtin.SmallTypes.nextOf (.ref it)) Q E s := by
  obtain ⟨o, ho, hc, hd⟩ := id hit
  unfold Builtin.SmallTypes.nextOf
  refine wpAny_bind (wpAny_callSpecial?_slot (name := Str.ofString "__next__") (KBw.iter_typeIs hit) KBw.slot_next
    (wpAny_call_entry KBw.slot_next (KBw.iter_typeIs hit) KBw.entry_next ?_ (KBw.args_next _)))
  show wpAny _ _ (field (.ref it) 0 >>= _) _ _ s
  refine wpAny_bind (wpAny_field ho hd (x := .bytes b t) rfl ?_)
  show wpAny _ _ (if (Value.bytes b t == Value.none) = true then _ else _) _ _ s
  rw [if_neg (show ¬ ((Value.bytes b t == Value.none) = true) from Bool.false_ne_true)]
  show wpAny _ _ (field (.ref it) 1 >>= _) _ _ s
  refine wpAny_bind (wpAny_field ho hd (x := .int i 0) rfl ?_)
  refine wpAny_bind (wpAny_of_eq (a := b) rfl ?_)
  simp only [Int.toNat_natCast, hx]
  refine wpAny_bind (wpAny_setField ho hd (by simp) (wpAny_bind (wpAny_mkInt (wpAny_pure ⟨_, rfl, wpAny_pure (hQ _ _ ?_ (Heap.SameBut.update ..))⟩))))
  exact ⟨_, Heap.get?_update_self _ ho (Obj.isFreed_of_fields (Obj.data_mapFields hd _)), (Obj.cls_mapFields ..).trans hc, by
    rw [Obj.data_mapFields hd]; simp [rawInt]⟩
theorem nextOf_end {it : Addr} {i : Nat} {Q : Value → Shared → Prop} (hh : A.handled = none) (hit : KBw.IsBytesIter s.heap it b t i) (hx : b[i]? = none)
    (hE : ∀ h' e, Heap.ExtBut it s.heap h' → (∃ o, h'.get? e = some o ∧ o.cls = .type "StopIteration") → E (.ref e) { s with heap := h' }) : wpAny (model prog w) A (Builtin.SmallTypes.nextOf (.ref it)) Q E s := by
  obtain ⟨o, ho, hc, hd⟩ := id hit
  unfold Builtin.SmallTypes.nextOf
  refine wpAny_bind (wpAny_callSpecial?_slot (name := Str.ofString "__next__") (KBw.iter_typeIs hit) KBw.slot_next
    (wpAny_call_entry KBw.slot_next (KBw.iter_typeIs hit) KBw.entry_next ?_ (KBw.args_next _)))
  show wpAny _ _ (field (.ref it) 0 >>= _) _ _ s
  refine wpAny_bind (wpAny_field ho hd (x := .bytes b t) rfl ?_)
  show wpAny _ _ (if (Value.bytes b t == Value.none) = true then _ else _) _ _ s
  rw [if_neg (show ¬ ((Value.bytes b t == Value.none) = true) from Bool.false_ne_true)]
  show wpAny _ _ (field (.ref it) 1 >>= _) _ _ s
  refine wpAny_bind (wpAny_field ho hd (x := .int i 0) rfl ?_)
  refine wpAny_bind (wpAny_of_eq (a := b) rfl ?_)
  simp only [Int.toNat_natCast, hx]
  refine wpAny_bind (wpAny_rule (wpAny_bind (wpAny_setField ho hd (by simp) ?_)))
  show wpAny _ _ (newExc (.type "StopIteration") [] >>= _) _ _ _
  refine wpAny_bind ?_
  simp only [newExc, newTuple]
  refine wpAny_bind (wpAny_newObj_type ?_ (by size_fits))
  refine wpAny_bind (m := firstArgMember _ _) (wpAny_of_eq (a := Value.none) (by first | rfl | (simp only [firstArgMember]; rfl)) ?_)
  refine wpAny_newObj_type ?_ (by size_fits)
  simp only [raiseNew]
  refine wpAny_bind (wpAny_handled ?_)
  rw [show A.in1.handled = none from hh]
  refine wpAny_bind (wpAny_pure (wpAny_throw ?_))
  exact hE _ _ (((Heap.SameBut.update ..).extBut.push _).push _) ⟨_, Heap.get?_push_size _ rfl, rfl⟩

/-- the parts of the zip lie apart -/
structure Apart (z TI TO i1 i2 : Addr) : Prop where
  TIz : TI ≠ z
  TOz : TO ≠ z
  i1z : i1 ≠ z
  i2z : i2 ≠ z
  TITO : TI ≠ TO
  TIi1 : TI ≠ i1
  TIi2 : TI ≠ i2
  TOi1 : TO ≠ i1
  TOi2 : TO ≠ i2
  i12 : i1 ≠ i2

structure St (z TI TO i1 i2 : Addr) (b c : Array UInt8) (t u : Tok) (f : Value) (k : Nat) (h : Heap) : Prop where
  hz : IsZip h z TI TO f
  hTI : IsPair h TI (.ref i1) (.ref i2)
  hTO : ∃ x y, IsPair h TO x y
  h1 : KBw.IsBytesIter h i1 b t k
  h2 : KBw.IsBytesIter h i2 c u k
theorem iter_keep {h h' : Heap} {i : Addr} {k : Nat} (x : KBw.IsBytesIter h i b t k) (hk : ∀ o, h.get? i = some o → h'.get? i = some o) : KBw.IsBytesIter h' i b t k := let ⟨o, ho, r⟩ := x; ⟨o, hk o ho, r⟩
variable {z TI TO i1 i2 : Addr} {c : Array UInt8} {u : Tok}
theorem St.keep {f : Value} {k : Nat} {h h' : Heap} (x : St z TI TO i1 i2 b c t u f k h) (hk : ∀ a ∈ [z, TI, TO, i1, i2], ∀ o, h.get? a = some o → h'.get? a = some o) : St z TI TO i1 i2 b c t u f k h' :=
  ⟨hk _ (by simp) _ x.hz, hk _ (by simp) _ x.hTI, let ⟨p, q, r⟩ := x.hTO; ⟨p, q, hk _ (by simp) _ r⟩, iter_keep x.h1 (hk _ (by simp)), iter_keep x.h2 (hk _ (by simp))⟩

theorem next_item {k : Nat} {x y : UInt8} {Q : Option Value → Shared → Prop} (D : Apart z TI TO i1 i2) (S : St z TI TO i1 i2 b c t u .none k s.heap) (hx : b[k]? = some x) (hy : c[k]? = some y)
    (hQ : ∀ h' (T : Addr) p q tk, St z TI TO i1 i2 b c t u (rawInt T) (k + 1) h' → IsPair h' T (.int (x.toNat : Int) p) (.int (y.toNat : Int) q) → s.heap.get? T = none → T ≠ z → T ≠ TO → T ≠ i1 → T ≠ i2 →
      (∀ a o, a ≠ z → a ≠ TO → a ≠ i1 → a ≠ i2 → s.heap.get? a = some o → h'.get? a = some o) → Q (some (.ref T)) { s with heap := h', toks := tk }) :
    wpAny (model prog w) A (pyNext (.ref z)) Q E s := by
  obtain ⟨hz, hTI, ⟨e1, e2, hTO⟩, h1, h2⟩ := S
  have hT : s.TypeIs (.ref z) "zip" := ⟨_, hz, rfl⟩
  unfold pyNext
  refine wpAny_bind (wpAny_attempt (wpAny_callSpecial?_slot (name := Str.ofString "__next__") hT F.slot_zip_next
    (wpAny_call_entry F.slot_zip_next hT F.entry_zip_next ?_ (F.args_zip_next_1 _))))
  show wpAny _ _ (field (.ref z) 2 >>= _) _ _ _
  refine wpAny_bind (wpAny_field hz rfl (x := .bool false) rfl ?_)
  show wpAny _ _ (field (.ref z) 3 >>= _) _ _ _
  refine wpAny_bind (wpAny_field hz rfl (x := .ref TI) rfl ?_)
  refine wpAny_bind (wpAny_seqItems hTI rfl ?_)
  show wpAny _ _ (Builtin.SmallTypes.ownedTupleIsFree (.ref z) >>= _) _ _ _
  refine wpAny_bind ?_
  unfold Builtin.SmallTypes.ownedTupleIsFree
  refine wpAny_bind (wpAny_field hz rfl (x := .none) rfl (wpAny_pure ?_))
  simp only [if_true]
  refine wpAny_bind (wpAny_rule ?_)
  refine wpAny_bind (wpAny_field hz rfl (x := .ref TO) rfl ?_)
  refine wpAny_bind (wpAny_setField_rec hz (by simp) fun h₁ hz₁ hs₁ => ?_)
  replace hz₁ : IsZip h₁ z TI TO .ellipsis := hz₁
  refine wpAny_bind ?_
  simp only [List.zipIdx_cons, List.zipIdx_nil, List.forIn_cons, List.forIn_nil]
  refine wpAny_bind (wpAny_bind (wpAny_onRaise ?_))
  show wpAny _ _ (Builtin.SmallTypes.nextOf (.ref i1) >>= _) _ _ _
  refine wpAny_bind (nextOf_item (iter_keep h1 (fun o => hs₁.extBut _ o D.i1z)) hx fun h₂ tk₂ h1₂ hs₂ => wpAny_pure ?_)
  have hTO₂ : IsPair h₂ TO e1 e2 := hs₂.extBut _ _ D.TOi1 (hs₁.extBut _ _ D.TOz hTO)
  refine wpAny_bind (wpAny_seqItems hTO₂ rfl ?_)
  refine wpAny_bind (wpAny_updateSeq_pair hTO₂ fun h₃ hTO₃ hs₃ => ?_)
  replace hTO₃ : IsPair h₃ TO (.int (x.toNat : Int) s.toks) e2 := hTO₃
  refine wpAny_bind (wpAny_letGo (wpAny_pure ?_))
  refine wpAny_bind (wpAny_bind (wpAny_onRaise ?_))
  show wpAny _ _ (Builtin.SmallTypes.nextOf (.ref i2) >>= _) _ _ _
  refine wpAny_bind (nextOf_item (iter_keep h2 (fun o e => hs₃.extBut _ o D.TOi2.symm (hs₂.extBut _ o D.i12.symm (hs₁.extBut _ o D.i2z e)))) hy fun h₄ tk₄ h2₄ hs₄ => wpAny_pure ?_)
  have hTO₄ : IsPair h₄ TO (.int (x.toNat : Int) s.toks) e2 := hs₄.extBut _ _ D.TOi2 hTO₃
  refine wpAny_bind (wpAny_seqItems hTO₄ rfl ?_)
  refine wpAny_bind (wpAny_updateSeq_pair hTO₄ fun h₅ hTO₅ hs₅ => ?_)
  replace hTO₅ : IsPair h₅ TO (.int (x.toNat : Int) s.toks) (.int (y.toNat : Int) tk₂) := hTO₅
  refine wpAny_bind (wpAny_letGo (wpAny_pure (wpAny_pure ?_)))
  refine wpAny_bind (wpAny_seqItems hTO₅ rfl ?_)
  refine wpAny_bind (wpAny_newTuple ?_)
  have hsz : h₅.objs.size = s.heap.objs.size := by rw [hs₅.1, hs₄.1, hs₃.1, hs₂.1, hs₁.1]
  have hz₅ : IsZip h₅ z TI TO .ellipsis := hs₅.extBut _ _ D.TOz.symm (hs₄.extBut _ _ D.i2z.symm (hs₃.extBut _ _ D.TOz.symm (hs₂.extBut _ _ D.i1z.symm hz₁)))
  have hk₅ : ∀ c o, c ≠ z → c ≠ TO → c ≠ i1 → c ≠ i2 → s.heap.get? c = some o → h₅.get? c = some o := fun c o c1 c2 c3 c4 e =>
    hs₅.extBut _ _ c2 (hs₄.extBut _ _ c4 (hs₃.extBut _ _ c2 (hs₂.extBut _ _ c3 (hs₁.extBut _ _ c1 e))))
  have h1₅ : KBw.IsBytesIter h₅ i1 b t (k + 1) := iter_keep h1₂ fun o e => hs₅.extBut _ o D.TOi1.symm (hs₄.extBut _ o D.i12 (hs₃.extBut _ o D.TOi1.symm e))
  have h2₅ : KBw.IsBytesIter h₅ i2 c u (k + 1) := iter_keep h2₄ fun o e => hs₅.extBut _ o D.TOi2.symm e
  have hzlt : z < h₅.objs.size := Heap.lt_size hz₅
  have hTOlt : TO < h₅.objs.size := Heap.lt_size hTO₅
  have hi1lt : i1 < h₅.objs.size := by obtain ⟨_, e, _⟩ := h1₅; exact Heap.lt_size e
  have hi2lt : i2 < h₅.objs.size := by obtain ⟨_, e, _⟩ := h2₅; exact Heap.lt_size e
  show wpAny _ _ (Builtin.SmallTypes.ownedTupleHandOut (.ref z) (.ref h₅.objs.size) >>= _) _ _ _
  refine wpAny_bind ?_
  unfold Builtin.SmallTypes.ownedTupleHandOut
  have hz₆ : IsZip (h₅.push { cls := .type "tuple", data := .seq #[.int (x.toNat : Int) s.toks, .int (y.toNat : Int) tk₂] }) z TI TO .ellipsis := Heap.get?_push_of_some _ hz₅
  refine wpAny_bind (wpAny_setField_rec hz₆ (by simp) fun h₇ hz₇ hs₇ => ?_)
  replace hz₇ : IsZip h₇ z TI TO (rawInt h₅.objs.size) := hz₇
  refine wpAny_setField_rec hz₇ (by simp) fun h₈ hz₈ hs₈ => ?_
  replace hz₈ : IsZip h₈ z TI TO (rawInt h₅.objs.size) := hz₈
  have up : ∀ c o, c ≠ z → h₅.get? c = some o → h₈.get? c = some o := fun c o c1 e => hs₈.extBut _ _ c1 (hs₇.extBut _ _ c1 (Heap.get?_push_of_some _ e))
  have hT₈ : IsPair h₈ h₅.objs.size (.int (x.toNat : Int) s.toks) (.int (y.toNat : Int) tk₂) := hs₈.extBut _ _ (Nat.ne_of_gt hzlt) (hs₇.extBut _ _ (Nat.ne_of_gt hzlt) (Heap.get?_push_size _ rfl))
  refine wpAny_pure ⟨_, rfl, wpAny_pure ?_⟩
  refine hQ h₈ h₅.objs.size _ _ _ ⟨hz₈, up _ _ D.TIz (hk₅ _ _ D.TIz D.TITO D.TIi1 D.TIi2 hTI), ⟨_, _, up _ _ D.TOz hTO₅⟩, iter_keep h1₅ (fun o => up _ o D.i1z), iter_keep h2₅ (fun o => up _ o D.i2z)⟩ hT₈ ?_
    (Nat.ne_of_gt hzlt) (Nat.ne_of_gt hTOlt) (Nat.ne_of_gt hi1lt) (Nat.ne_of_gt hi2lt) fun a o c1 c2 c3 c4 e => up a o c1 (hk₅ a o c1 c2 c3 c4 e)
  rw [hsz]
  cases e : s.heap.get? s.heap.objs.size with
  | none => rfl
  | some o => exact absurd (Heap.lt_size e) (Nat.lt_irrefl _)

theorem next_end {k : Nat} {Q : Option Value → Shared → Prop} (hh : A.handled = none) (D : Apart z TI TO i1 i2) (S : St z TI TO i1 i2 b c t u .none k s.heap) (hx : b[k]? = none)
    (hQ : ∀ h', (∀ a o, a ≠ z → a ≠ TO → a ≠ i1 → a ≠ i2 → s.heap.get? a = some o → h'.get? a = some o) → Q none { s with heap := h' }) :
    wpAny (model prog w) A (pyNext (.ref z)) Q E s := by
  obtain ⟨hz, hTI, ⟨e1, e2, hTO⟩, h1, h2⟩ := S
  have hT : s.TypeIs (.ref z) "zip" := ⟨_, hz, rfl⟩
  unfold pyNext
  refine wpAny_bind (wpAny_attempt (wpAny_callSpecial?_slot (name := Str.ofString "__next__") hT F.slot_zip_next
    (wpAny_call_entry F.slot_zip_next hT F.entry_zip_next ?_ (F.args_zip_next_1 _))))
  show wpAny _ _ (field (.ref z) 2 >>= _) _ _ _
  refine wpAny_bind (wpAny_field hz rfl (x := .bool false) rfl ?_)
  show wpAny _ _ (field (.ref z) 3 >>= _) _ _ _
  refine wpAny_bind (wpAny_field hz rfl (x := .ref TI) rfl ?_)
  refine wpAny_bind (wpAny_seqItems hTI rfl ?_)
  show wpAny _ _ (Builtin.SmallTypes.ownedTupleIsFree (.ref z) >>= _) _ _ _
  refine wpAny_bind ?_
  unfold Builtin.SmallTypes.ownedTupleIsFree
  refine wpAny_bind (wpAny_field hz rfl (x := .none) rfl (wpAny_pure ?_))
  simp only [if_true]
  refine wpAny_bind (wpAny_rule ?_)
  refine wpAny_bind (wpAny_field hz rfl (x := .ref TO) rfl ?_)
  refine wpAny_bind (wpAny_setField_rec hz (by simp) fun h₁ hz₁ hs₁ => ?_)
  replace hz₁ : IsZip h₁ z TI TO .ellipsis := hz₁
  refine wpAny_bind ?_
  simp only [List.zipIdx_cons, List.zipIdx_nil, List.forIn_cons, List.forIn_nil]
  refine wpAny_bind (wpAny_bind (wpAny_onRaise ?_))
  show wpAny _ _ (Builtin.SmallTypes.nextOf (.ref i1) >>= _) _ _ _
  refine wpAny_bind (nextOf_end hh (iter_keep h1 (fun o => hs₁.extBut _ o D.i1z)) hx fun h₂ e hs₂ he => ?_)
  obtain ⟨oe, hoe, hce⟩ := he
  have hz₂ : IsZip h₂ z TI TO .ellipsis := hs₂ _ _ D.i1z.symm hz₁
  have hez : e ≠ z := fun x => by subst x; rw [hz₂] at hoe; cases hoe; simp at hce
  refine wpAny_setField_rec hz₂ (by simp) fun h₃ _ hs₃ => ?_
  refine wpAny_bind (wpAny_isInstance (T := "StopIteration") (b := true) ⟨oe, hs₃.extBut _ _ hez hoe, hce⟩ isSubtype_stop ?_)
  exact wpAny_pure (hQ _ fun a o c1 _ c3 _ x => hs₃.extBut _ _ c1 (hs₂ _ _ c3 (hs₁.extBut _ _ c1 x)))

theorem go {elts : List Expr} {x1} {pos : Pos} {T : Addr} {k : Nat} {Q : Unit → Shared → Prop} (D : Apart z TI TO i1 i2) (S : St z TI TO i1 i2 b c t u (rawInt T) k s.heap)
    (hQ : ∀ h', St z TI TO i1 i2 b c t u .none k h' → Heap.SameBut z s.heap h' → Q () { s with heap := h' }) :
    wpAny (model prog w) A (letOwnedTupleGo (.Tuple elts x1 pos) (.ref z) (.ref T)) Q E s := by
  obtain ⟨hz, hTI, ⟨e1, e2, hTO⟩, h1, h2⟩ := S
  exact wpAny_letOwnedTupleGo_zip hz fun h' hz' hs => hQ h' ⟨hz', hs.extBut _ _ D.TIz hTI, ⟨_, _, hs.extBut _ _ D.TOz hTO⟩, iter_keep h1 (fun o => hs.extBut _ o D.i1z), iter_keep h2 (fun o => hs.extBut _ o D.i2z)⟩ hs
end
end Zb
end Mine
end

/-! part Zb2 -/
section
open PySem PySem.W PyProof.Rows PySem.Calls PyProof.V PySem.Spec PySem.Builtin
set_option maxRecDepth 100000
set_option maxHeartbeats 4000000
namespace Mine
namespace Zb
abbrev o1 (b : Array UInt8) (t : Tok) : Obj := { cls := .type "bytes_iterator", data := .fields #[.bytes b t, .int 0 0] }
abbrev H1 (h : Heap) (b : Array UInt8) (t : Tok) : Heap := h.push (o1 b t)
abbrev H2 (h : Heap) (b c : Array UInt8) (t u : Tok) : Heap := (H1 h b t).push (o1 c u)
abbrev H3 (h : Heap) (b c : Array UInt8) (t u : Tok) : Heap := (H2 h b c t u).push { cls := .type "tuple", data := .seq #[.ref h.objs.size, .ref (H1 h b t).objs.size] }
abbrev H4 (h : Heap) (b c : Array UInt8) (t u : Tok) : Heap := (H3 h b c t u).push { cls := .type "tuple", data := .seq #[.none, .none] }
abbrev H5 (h : Heap) (b c : Array UInt8) (t u : Tok) : Heap := (H4 h b c t u).push { cls := .type "zip", data := .fields #[.none, .bool false, .bool false, .ref (H2 h b c t u).objs.size, .ref (H3 h b c t u).objs.size] }
theorem meets_new (b c : Array UInt8) (t u : Tok) :
    Meets (Builtin.«zip.__new__» ⟨[.type "zip", .bytes b t, .bytes c u], []⟩) (fun _ R s => R (.ok (.ret (.ref (H4 s.heap b c t u).objs.size))) { s with heap := H5 s.heap b c t u }) :=
  .of_wp fun prog w A R s h => by
    obtain ⟨hp, g, d, tk, os⟩ := s
    have hsub := sub_zip
    wp_walk using KBw.pyIter_bytes, KBw.pyIter_bytes
    exact ⟨_, rfl, h⟩
section
variable {prog : Program} {w : World} {A : Around} {E : Value → Shared → Prop} {s : Shared} {b c : Array UInt8} {t u : Tok}
theorem call_zip {Q : Value → Shared → Prop}
    (h : ∀ h' z TI TO i1 i2, Apart z TI TO i1 i2 → St z TI TO i1 i2 b c t u .none 0 h' → (∀ a ∈ [z, TI, TO, i1, i2], s.heap.get? a = none) → (∀ a o, s.heap.get? a = some o → h'.get? a = some o) → Q (.ref z) { s with heap := h' }) :
    wpAny (model prog w) A (call (.type "zip") [.bytes b t, .bytes c u]) Q E s := by
  refine callType_new F.called_zip (by decide) (F.typeCall_zip_2 _ _) (F.newCall_zip_2 _ _) (fun obj => F.args_object_init_3 obj _ _) F.entry_zip_new (meets_new b c t u) ?_
  have z1 : (H1 s.heap b t).objs.size = s.heap.objs.size + 1 := Heap.size_push ..
  have z2 : (H2 s.heap b c t u).objs.size = s.heap.objs.size + 2 := by rw [Heap.size_push, z1]
  have z3 : (H3 s.heap b c t u).objs.size = s.heap.objs.size + 3 := by rw [Heap.size_push, z2]
  have z4 : (H4 s.heap b c t u).objs.size = s.heap.objs.size + 4 := by rw [Heap.size_push, z3]
  have g5 : (H5 s.heap b c t u).get? (H4 s.heap b c t u).objs.size = some _ := Heap.get?_push_size _ rfl
  have g4 : (H5 s.heap b c t u).get? (H3 s.heap b c t u).objs.size = some _ := Heap.get?_push_of_some _ (Heap.get?_push_size _ rfl)
  have g3 : (H5 s.heap b c t u).get? (H2 s.heap b c t u).objs.size = some _ := Heap.get?_push_of_some _ (Heap.get?_push_of_some _ (Heap.get?_push_size _ rfl))
  have g2 : (H5 s.heap b c t u).get? (H1 s.heap b t).objs.size = some _ := Heap.get?_push_of_some _ (Heap.get?_push_of_some _ (Heap.get?_push_of_some _ (Heap.get?_push_size _ rfl)))
  have g1 : (H5 s.heap b c t u).get? s.heap.objs.size = some _ := Heap.get?_push_of_some _ (Heap.get?_push_of_some _ (Heap.get?_push_of_some _ (Heap.get?_push_of_some _ (Heap.get?_push_size _ rfl))))
  show _ ∧ _
  rw [z2, z3, z4] at g5
  rw [z1, z2] at g3
  rw [z3] at g4
  rw [z1] at g2
  rw [z4]
  have new : ∀ k, s.heap.get? (s.heap.objs.size + k) = none := fun k => by
    cases e : s.heap.get? (s.heap.objs.size + k) with
    | none => rfl
    | some o => exact absurd (Heap.lt_size e) (Nat.not_lt.mpr (Nat.le_add_right _ _))
  refine ⟨⟨_, g5, rfl⟩, h _ (s.heap.objs.size + 4) (s.heap.objs.size + 2) (s.heap.objs.size + 3) s.heap.objs.size (s.heap.objs.size + 1)
    ⟨?_, ?_, ?_, ?_, ?_, ?_, ?_, ?_, ?_, ?_⟩ ⟨g5, g3, ⟨_, _, g4⟩, ⟨_, g1, rfl, rfl⟩, ⟨_, g2, rfl, rfl⟩⟩ ?_ fun c o x =>
    Heap.get?_push_of_some _ (Heap.get?_push_of_some _ (Heap.get?_push_of_some _ (Heap.get?_push_of_some _ (Heap.get?_push_of_some _ x))))⟩
  all_goals first
    | (show (_ : Nat) ≠ _; omega)
    | (intro a ha; simp only [List.mem_cons, List.not_mem_nil, or_false] at ha; rcases ha with rfl | rfl | rfl | rfl | rfl <;> first | exact new _ | exact new 0)

variable {elt iter : PySem.Expr} {x y : Str} {px py tp : Pos} {kk : Nat} {scope : Scope} {pos : Pos} {env : Env} {f : Int → Int → Int}
/-- the row of all pairs -/
def pairs (f : Int → Int → Int) (b c : Array UInt8) : List Int := List.zipWith f (KBw.bInts b) (KBw.bInts c)
theorem pairs_take {k : Nat} {p q : UInt8} (hp : b[k]? = some p) (hq : c[k]? = some q) : (pairs f b c).take (k + 1) = (pairs f b c).take k ++ [f p.toNat q.toNat] := by
  have h1 := KBw.ints_get hp
  have h2 := KBw.ints_get hq
  have h3 : (pairs f b c)[k]? = some (f p.toNat q.toNat) := by
    unfold pairs
    rw [List.getElem?_zipWith, h1, h2]
  rw [List.take_add_one, h3]
  rfl
theorem ints_push : ∀ {vs : List Value} {ns : List Int} {i : Int} {r : Tok}, IntsAre vs ns → IntsAre (vs ++ [.int i r]) (ns ++ [i])
  | _, _, _, _, .nil => .cons _ _ .nil
  | _, _, _, _, .cons i t h => .cons i t (ints_push h)

theorem listComp {Q : Value → Shared → Prop} (hh : A.handled = none) (hfree : ∀ y ∈ scope.names, y.2 ≠ .free) (hcell : ∀ y ∈ scope.names, y.2 ≠ .cell) (hkind : scope.kind = .function)
    (hnames : ∀ y ∈ scope.names, y.2 = .local → scope.names.lookup y.1 = some .local) (hx : scope.names.lookup x = some .local) (hy : scope.names.lookup y = some .local) (hxy : x ≠ y)
    (helt : ∀ C (p q : UInt8) r r' s₂ m₂ E', s₂.heap.Ns C m₂ → m₂ x = some (.int (p.toNat : Int) r) → m₂ y = some (.int (q.toNat : Int) r') →
      wpAny (model prog w) A (eval elt (compEnv scope C env)) (fun v s₃ => (∃ r, v = .int (f p.toNat q.toNat) r) ∧ Keeps s₂ s₃) E' s₂)
    (h : wpAny (model prog w) A (eval iter env) (fun zv s₁ => ∃ z TI TO i1 i2 b c t u, zv = .ref z ∧ Apart z TI TO i1 i2 ∧ St z TI TO i1 i2 b c t u .none 0 s₁.heap ∧ b.size = c.size ∧ b.size ≤ 1000000 ∧
      (∀ D h' tk vs, s₁.heap.get? D = none → h'.IsList D vs.toArray → IntsAre vs (pairs f b c) → (∀ a o, a ∉ [z, TI, TO, i1, i2] → s₁.heap.get? a = some o → h'.get? a = some o) → Q (.ref D) { s₁ with heap := h', toks := tk })) E s)
    (hs : ∀ x, foldedSetIterable iter env x = pure x := by intro _; rfl) :
    wpAny (model prog w) A (eval (.ListComp elt [⟨.Tuple [.Name x px, .Name y py] kk tp, iter, [], 0⟩] scope pos) env) Q E s := by
  refine wpAny_ListComp hfree hkind hnames (wpAny_mono h (fun xv s₁ h₁ => ?_) fun _ _ e => e) hs
  obtain ⟨z, TI, TO, i1, i2, b, c, t, u, rfl, D, S, hbc, hsz, hQ⟩ := h₁
  refine wpAny_pyIter_zip S.hz (wpAny_newObj_type (hd := by size_fits) (wpAny_newFunctionEnv hcell (by intro y hy; simp at hy) (fun h₁ hns₁ hsb₁ => ?_) hkind))
  dsimp only at hns₁ hsb₁ ⊢
  generalize hG : s₁.heap.push { cls := .type "list", dict := none, data := .seq ([] : List Value).toArray } = G at hns₁ hsb₁ ⊢
  have hC : G.objs.size = s₁.heap.objs.size + 1 := by rw [← hG, Heap.size_push]
  have hDC : s₁.heap.objs.size ≠ G.objs.size := by rw [hC]; exact Nat.ne_of_lt (Nat.lt_succ_self _)
  have below : ∀ a, a < s₁.heap.objs.size → a ≠ G.objs.size ∧ a ≠ s₁.heap.objs.size := fun a ha => ⟨by rw [hC]; exact Nat.ne_of_lt (Nat.lt_succ_of_lt ha), Nat.ne_of_lt ha⟩
  have old : ∀ a o, s₁.heap.get? a = some o → h₁.get? a = some o := fun a o e => hsb₁.extBut a o (below a (Heap.lt_size e)).1 (Heap.get?_push_of_some _ (hG ▸ Heap.get?_push_of_some _ e))
  have hacc : h₁.IsList s₁.heap.objs.size ([] : List Value).toArray := ⟨_, hsb₁.extBut _ _ hDC (Heap.get?_push_of_some _ (hG ▸ Heap.get?_push_size _ rfl)), rfl, _, rfl⟩
  have hnew : s₁.heap.get? s₁.heap.objs.size = none := by
    cases e : s₁.heap.get? s₁.heap.objs.size with
    | none => rfl
    | some o' => exact absurd (Heap.lt_size e) (Nat.lt_irrefl _)
  have S₁ : St z TI TO i1 i2 b c t u .none 0 h₁ := S.keep fun a _ o e => old a o e
  have ltz : z < s₁.heap.objs.size := Heap.lt_size S.hz
  have ltTI : TI < s₁.heap.objs.size := Heap.lt_size S.hTI
  have ltTO : TO < s₁.heap.objs.size := let ⟨_, _, e⟩ := S.hTO; Heap.lt_size e
  have lt1 : i1 < s₁.heap.objs.size := let ⟨_, e, _⟩ := S.h1; Heap.lt_size e
  have lt2 : i2 < s₁.heap.objs.size := let ⟨_, e, _⟩ := S.h2; Heap.lt_size e
  have aC : ∀ a ∈ [z, TI, TO, i1, i2], a ≠ G.objs.size ∧ a ≠ s₁.heap.objs.size := fun a ha => below a (by simp only [List.mem_cons, List.not_mem_nil, or_false] at ha; rcases ha with rfl | rfl | rfl | rfl | rfl <;> assumption)
  have hlen : (pairs f b c).length = b.size := by unfold pairs; rw [List.length_zipWith, KBw.ints_length, KBw.ints_length, ← hbc, Nat.min_self]
  have loop : ∀ s₂ : Shared, s₂ = { s₁ with heap := h₁, toks := s₁.toks + ([] : List (Str × Value)).length } →
      codeAny (model prog w) A (.compLoop (.ListComp elt [⟨.Tuple [.Name x px, .Name y py] kk tp, iter, [], 0⟩] scope pos) 0 (.ref z) (.ref s₁.heap.objs.size) (compEnv scope G.objs.size env))
        (fun r s' => ∃ m, s'.heap.Ns G.objs.size m ∧ ∀ h', Heap.SameBut G.objs.size s'.heap h' →
          match r with | .ok _ => Q (.ref s₁.heap.objs.size) { s' with heap := h' } | .error x => wpAny (model prog w) A (passOn "comprehension.variables-let-go" x (compEnv scope G.objs.size env)) Q E { s' with heap := h' }) s₂ := by
    rintro s₂ rfl
    refine kcp_loop (fun n s' => ∃ h' tk k vs m', s' = { s₁ with heap := h', toks := tk } ∧ k ≤ b.size ∧ n = b.size + 1 - k ∧ St z TI TO i1 i2 b c t u .none k h' ∧ h'.Ns G.objs.size m' ∧ h'.IsList s₁.heap.objs.size vs.toArray ∧ IntsAre vs ((pairs f b c).take k) ∧
        (∀ a o, a ∉ [z, TI, TO, i1, i2] → a ≠ G.objs.size → a ≠ s₁.heap.objs.size → s₁.heap.get? a = some o → h'.get? a = some o)) ?_ (b.size + 1)
      ⟨h₁, _, 0, [], _, rfl, Nat.zero_le _, rfl, S₁, hns₁, hacc, .nil, fun a o _ _ _ e => old a o e⟩
    rintro n s' ⟨h', tk, k, vs, m', rfl, hk, rfl, S', hn', hl', hi', hkeep⟩
    by_cases hlt : k < b.size
    · have hp : b[k]? = some b[k] := Array.getElem?_eq_getElem hlt
      have hltc : k < c.size := by omega
      have hq : c[k]? = some c[k] := Array.getElem?_eq_getElem hltc
      refine next_item D S' hp hq fun h₂ T r r' tk₂ S₂ hT hTn t1 t2 t3 t4 hk₂ => ?_
      refine go D S₂ fun h₃ S₃ hs₃ => ?_
      have hT₃ : IsPair h₃ T (.int (b[k].toNat : Int) r) (.int (c[k].toNat : Int) r') := hs₃.extBut _ _ t1 hT
      have up₃ : ∀ a o, a ∉ [z, TI, TO, i1, i2] → h'.get? a = some o → h₃.get? a = some o := fun a o ha e =>
        hs₃.extBut _ _ (fun q => ha (by simp [q])) (hk₂ a o (fun q => ha (by simp [q])) (fun q => ha (by simp [q])) (fun q => ha (by simp [q])) (fun q => ha (by simp [q])) e)
      have gC : G.objs.size ∉ [z, TI, TO, i1, i2] := fun hm => (aC _ hm).1 rfl
      have gD : s₁.heap.objs.size ∉ [z, TI, TO, i1, i2] := fun hm => (aC _ hm).2 rfl
      refine kcp_assign (env := compEnv scope G.objs.size env) hh ⟨_, hT₃, rfl, _, rfl⟩ hx hy (by simp [compEnv, hkind]) (hn'.at' fun o e => up₃ _ o gC e) fun h₄ tk₄ hn₄ hs₄ => ?_
      have S₄ : St z TI TO i1 i2 b c t u .none (k + 1) h₄ := S₃.keep fun a ha o e => hs₄ a o (aC a ha).1 e
      refine wpAny_mono (helt G.objs.size b[k] c[k] r r' _ _ _ hn₄ (by simp [hxy]) (by simp)) (fun v s₅ hv => ?_) fun _ _ e => e
      obtain ⟨⟨r₅, rfl⟩, h₅, tk₅, rfl, hk₅⟩ := hv
      have hl₅ : h₅.IsList s₁.heap.objs.size vs.toArray := hl'.at fun o e => hk₅ _ o (hs₄ _ o hDC (up₃ _ o gD e))
      have hvl : vs.length = k := by rw [hi'.length, List.length_take, hlen]; omega
      refine wpAny_list_append (hsz := by rw [List.size_toArray, hvl, sizeLine_eq]; omega) hl₅ fun h₆ hl₆ hs₆ => ?_
      refine ⟨b.size + 1 - (k + 1), by omega, h₆, tk₅, k + 1, vs ++ [.int (f b[k].toNat c[k].toNat) r₅], _, rfl, hlt, rfl, (S₄.keep fun a _ o e => hk₅ a o e).keep fun a ha o e => hs₆.extBut a o (aC a ha).2 e,
        (hn₄.keeps hk₅).sameBut hs₆ (Ne.symm hDC), by simpa using hl₆, ?_, fun a o ha hC hD e => hs₆.extBut a o hD (hk₅ a o (hs₄ a o hC (up₃ a o ha (hkeep a o ha hC hD e))))⟩
      rw [pairs_take hp hq]
      exact ints_push hi'
    · have hk' : k = b.size := by omega
      subst hk'
      refine next_end hh D S' (by simp) fun h₂ hk₂ => ?_
      have up₂ : ∀ a o, a ∉ [z, TI, TO, i1, i2] → h'.get? a = some o → h₂.get? a = some o := fun a o ha e =>
        hk₂ a o (fun q => ha (by simp [q])) (fun q => ha (by simp [q])) (fun q => ha (by simp [q])) (fun q => ha (by simp [q])) e
      have gC : G.objs.size ∉ [z, TI, TO, i1, i2] := fun hm => (aC _ hm).1 rfl
      have gD : s₁.heap.objs.size ∉ [z, TI, TO, i1, i2] := fun hm => (aC _ hm).2 rfl
      refine ⟨_, hn'.at' fun o e => up₂ _ o gC e, fun h₃ hs₃ => ?_⟩
      refine hQ _ h₃ tk vs hnew ((hl'.at fun o e => up₂ _ o gD e).extBut hs₃.extBut hDC) ?_ fun a o ha e => ?_
      · rw [← hlen, List.take_length] at hi'; exact hi'
      · have hb := below a (Heap.lt_size e)
        exact hs₃.extBut a o hb.1 (up₂ a o ha (hkeep a o ha hb.1 hb.2 e))
  exact codeAny_compStart_list (loop _ rfl) (wpAny_pyIter_zip S₁.hz (loop _ rfl))
end
end Zb
end Mine
end

/-! part Sl -/
section
open PySem PySem.W PyProof.Rows PySem.Calls PyProof.V PySem.Spec PySem.Builtin
set_option maxRecDepth 100000
set_option maxHeartbeats 4000000
namespace Mine
namespace Ba
section
variable {prog : Program} {w : World} {A : Around} {E : Value → Shared → Prop} {s : Shared} {h₀ : Heap} {L a : Addr} {b : Array UInt8} {m : Str → Option Value} {news : List (Addr × Obj)}
theorem slice_bytes {value slice : PySem.Expr} {t : Tok} {vl vu vs : Value} {lo hi step : Option Int} {Q : Value → Shared → Prop}
    (F : Fr h₀ L s.heap m) (N : News h₀ L s.heap news) (pl : IsPart vl lo) (pu : IsPart vu hi) (ps : IsPart vs step) (h0 : step ≠ some 0) (h1 : (step.getD 1 == 1) = false) (hz : (cut b lo hi step).size ≤ 16777216)
    (h : ∀ h' tk t', Fr h₀ L h' m → News h₀ L h' news → Q (.bytes (cut b lo hi step) t') { s with heap := h', toks := tk })
    (hs : subscripted slice false (.bytes b t) (.ref s.heap.objs.size) = operate [.ref s.heap.objs.size, .bytes b t] (PySem.getItem (.bytes b t) (.ref s.heap.objs.size)) := by with_unfolding_all rfl)
    (ht : ∀ r, letTemporaryGo value (.bytes b t) r = pure () := by intro _; with_unfolding_all rfl) :
    wpAny (model prog w) A (subscriptTail value slice (.bytes b t) (.ref s.heap.objs.size)) Q E { s with heap := s.heap.push { cls := .type "slice", data := .fields #[vl, vu, vs] } } := by
  refine subscriptTail_ops (typeIs_bytes _ b t) FB.slot_bytes_getitem.lookup
    (getSlice_bytes (Heap.IsSliceOf.new ..) pl pu ps h0 h1 hz fun t' => ?_) hs ht
  exact h _ _ _ (F.push _) (N.grown fun _ _ e => Heap.get?_push_of_some _ e)
theorem slice_ba {value slice : PySem.Expr} {vl vu vs : Value} {lo hi step : Option Int} {Q : Value → Shared → Prop}
    (F : Fr h₀ L s.heap m) (N : News h₀ L s.heap news) (ho : s.heap.get? a = some (obj b)) (pl : IsPart vl lo) (pu : IsPart vu hi) (ps : IsPart vs step) (h0 : step ≠ some 0) (hz : (cut b lo hi step).size ≤ 16777216)
    (h : ∀ h' D, Fr h₀ L h' m → News h₀ L h' news → (∀ x o, s.heap.get? x = some o → h'.get? x = some o) → s.heap.get? D = none → h₀.get? D = none → D ≠ L → h'.get? D = some (obj (cut b lo hi step)) → Q (.ref D) { s with heap := h' })
    (hs : subscripted slice false (.ref a) (.ref s.heap.objs.size) = operate [.ref s.heap.objs.size, .ref a] (PySem.getItem (.ref a) (.ref s.heap.objs.size)) := by with_unfolding_all rfl)
    (ht : ∀ r, letTemporaryGo value (.ref a) r = pure () := by intro _; with_unfolding_all rfl) :
    wpAny (model prog w) A (subscriptTail value slice (.ref a) (.ref s.heap.objs.size)) Q E { s with heap := s.heap.push { cls := .type "slice", data := .fields #[vl, vu, vs] } } := by
  have ho' : (s.heap.push { cls := .type "slice", data := .fields #[vl, vu, vs] }).get? a = some (obj b) := Heap.get?_push_of_some _ ho
  refine subscriptTail_ops (typeIs ho') slot_getitem.lookup (getSlice ho' (Heap.IsSliceOf.new ..) pl pu ps h0 hz ?_) hs ht
  have e : (s.heap.push { cls := .type "slice", data := .fields #[vl, vu, vs] }).objs.size = s.heap.objs.size + 1 := Heap.size_push ..
  have hn : s.heap.get? (s.heap.objs.size + 1) = none := by
    cases e' : s.heap.get? (s.heap.objs.size + 1) with
    | none => rfl
    | some o => exact absurd (Heap.lt_size e') (Nat.not_lt.mpr (Nat.le_succ _))
  have hn₀ : h₀.get? (s.heap.objs.size + 1) = none := by
    cases e' : h₀.get? (s.heap.objs.size + 1) with
    | none => rfl
    | some o => exact absurd (F.keep _ _ e') (by rw [hn]; exact Option.some_ne_none o ∘ Eq.symm)
  show Q (.ref (s.heap.push _).objs.size) _
  refine h _ _ ((F.push _).push _) ((N.grown fun _ _ e => Heap.get?_push_of_some _ e).grown fun _ _ e => Heap.get?_push_of_some _ e) (fun x o e => Heap.get?_push_of_some _ (Heap.get?_push_of_some _ e)) (e ▸ hn) (e ▸ hn₀) (e ▸ fun x => ?_) (Heap.get?_push_size _ rfl)
  exact Nat.not_succ_lt_self (Eq.subst (motive := fun z => z < s.heap.objs.size) x.symm F.ns.lt)
theorem item_ba {value slice : PySem.Expr} {k : Int} {u : Tok} {Q : Value → Shared → Prop} (ho : s.heap.get? a = some (obj b)) (h0 : 0 ≤ k) (h1 : k < b.size) (hf : b.size ≤ 16777216) (h : ∀ t, Q (.int ((bi b).getD k.toNat 0) t) { s with toks := s.toks + 1 })
    (hs : subscripted slice false (.ref a) (.int k u) = operate [.int k u, .ref a] (PySem.getItem (.ref a) (.int k u)) := by with_unfolding_all rfl)
    (ht : ∀ r, letTemporaryGo value (.ref a) r = pure () := by intro _; with_unfolding_all rfl) :
    wpAny (model prog w) A (subscriptTail value slice (.ref a) (.int k u)) Q E s := by
  refine subscriptTail_ops (typeIs ho) slot_getitem.lookup ?_ hs ht
  exact getItem ho h0 h1 (by omega) h
end
end Ba
end Mine
end

/-! part Cu -/
section
open PySem PySem.W PyProof.Rows PySem.Calls PyProof.V PySem.Spec PySem.Builtin
set_option maxRecDepth 100000
set_option maxHeartbeats 4000000
namespace Mine
namespace Ba
theorem fm_getElem {b : Array UInt8} : ∀ (l : List Nat), (∀ k ∈ l, k < b.size) → l.filterMap (b[·]?) = l.map fun k => b.getD k 0
  | [], _ => rfl
  | k :: l, h => by
    have hk : k < b.size := h k (List.mem_cons_self ..)
    have e : b[k]? = some (b.getD k 0) := by rw [Array.getElem?_eq_getElem hk]; simp [Array.getD, hk]
    rw [List.filterMap_cons, e, List.map_cons, fm_getElem l fun j hj => h j (List.mem_cons_of_mem _ hj)]
theorem range_step (a n : Nat) (c : Int) (hc : c = (a : Int) + 2 * n ∨ c = (a : Int) + 2 * n - 1) (hn : 0 < n) : sliceRange a c 2 = (List.range n).map fun k => a + 2 * k := by
  unfold sliceRange
  have h1 : (a : Int) < c := by omega
  have e : (c - a + 2 - 1) / 2 = (n : Int) := by omega
  simp only [show (2 : Int) > 0 by decide, if_true, h1, e, Int.toNat_natCast]
  apply List.map_congr_left
  intro k _
  omega
theorem cut_even {b : Array UInt8} {n : Nat} (hn : b.size = 2 * n) : cut b none none (some 2) = ((List.range n).map fun k => b.getD (2 * k) 0).toArray := by
  have eb : sliceBounds none none (some 2) b.size = (0, (b.size : Int), 2) := by simp [sliceBounds]
  unfold cut
  rw [eb]
  by_cases h0 : n = 0
  · subst h0
    have : b = #[] := Array.eq_empty_of_size_eq_zero (by omega)
    subst this; rfl
  · unfold Bytes.sliced
    have := range_step 0 n b.size (by left; omega) (by omega)
    simp only [Int.natCast_zero] at this
    dsimp only
    rw [show ((0 : Int)) = ((0 : Nat) : Int) from rfl, range_step 0 n b.size (by left; omega) (by omega), fm_getElem, List.map_map]
    · congr 1
      apply List.map_congr_left
      intro k _
      simp
    · intro k hk
      obtain ⟨j, hj, rfl⟩ := List.mem_map.mp hk
      have := List.mem_range.mp hj
      omega
theorem cut_odd {b : Array UInt8} {n : Nat} (hn : b.size = 2 * n) : cut b (some 1) none (some 2) = ((List.range n).map fun k => b.getD (2 * k + 1) 0).toArray := by
  by_cases h0 : n = 0
  · subst h0
    have : b = #[] := Array.eq_empty_of_size_eq_zero (by omega)
    subst this; rfl
  · have eb : sliceBounds (some 1) none (some 2) b.size = (1, (b.size : Int), 2) := by
      simp only [sliceBounds, Option.getD_some]
      have h1 : ¬ ((1 : Int) < 0) := by omega
      simp only [h1, if_false, show (2 : Int) > 0 by decide, if_true]
      congr 1
      omega
    unfold cut
    rw [eb]
    unfold Bytes.sliced
    dsimp only
    rw [show ((1 : Int)) = ((1 : Nat) : Int) from rfl, range_step 1 n b.size (by right; omega) (by omega), fm_getElem, List.map_map]
    · congr 1
      apply List.map_congr_left
      intro k _
      simp [Nat.add_comm]
    · intro k hk
      obtain ⟨j, hj, rfl⟩ := List.mem_map.mp hk
      have := List.mem_range.mp hj
      omega
theorem cut_run {b : Array UInt8} {lo hi : Nat} (h1 : lo ≤ hi) (h2 : hi ≤ b.size) : cut b (some lo) (some hi) none = b.extract lo hi := by
  have e : sliceBounds (some (lo : Int)) (some (hi : Int)) none b.size = ((lo : Int), (hi : Int), 1) := by
    simp only [sliceBounds, Option.getD_none]
    have h1 : ¬ ((lo : Int) < 0) := by omega
    have h2 : ¬ ((hi : Int) < 0) := by omega
    simp only [h1, h2, if_false, show (1 : Int) > 0 by decide, if_true]
    congr 1
    · omega
    · congr 1
      omega
  unfold cut
  rw [e]
  unfold Bytes.sliced
  dsimp only
  rw [sliceRange_one, fm_getElem, List.map_map]
  · apply Array.ext
    · simp; omega
    · intro i h1 h2
      simp at h1 h2
      simp [Array.getD]
      rw [dif_pos (by omega)]
  · intro k hk
    obtain ⟨j, hj, rfl⟩ := List.mem_map.mp hk
    have := List.mem_range.mp hj
    omega
theorem cut_head {b : Array UInt8} {hi : Nat} (h2 : hi ≤ b.size) : cut b none (some hi) none = b.extract 0 hi := by
  rw [← cut_run (Nat.zero_le _) h2]
  unfold cut
  have : sliceBounds none (some (hi : Int)) none b.size = sliceBounds (some ((0 : Nat) : Int)) (some (hi : Int)) none b.size := by
    simp only [sliceBounds, Option.getD_none]
    congr 1
  rw [this]
/-- the octet at a place, as an int -/
def at_ (b : Array UInt8) (k : Nat) : Int := ((b.getD k 0).toNat : Int)
theorem at_eq (b : Array UInt8) (k : Nat) : (bi b).getD k 0 = at_ b k := by
  unfold at_ bi KBw.bInts
  by_cases h : k < b.size
  · simp [List.getD, h, Array.getD]
  · simp [List.getD, h, Array.getD]
theorem at_bound (b : Array UInt8) (k : Nat) : 0 ≤ at_ b k ∧ at_ b k ≤ 255 := by
  unfold at_
  have := (b.getD k 0).toNat_lt
  omega
theorem pairs_eq {b : Array UInt8} {n : Nat} (hn : b.size = 2 * n) (f : Int → Int → Int) :
    Zb.pairs f (cut b none none (some 2)) (cut b (some 1) none (some 2)) = (List.range n).map fun k => f (at_ b (2 * k)) (at_ b (2 * k + 1)) := by
  rw [cut_even hn, cut_odd hn]
  unfold Zb.pairs KBw.bInts
  simp only [List.map_map, List.zipWith_map]
  rw [List.zipWith_self]
  apply List.map_congr_left
  intro k _
  rfl
end Ba
end Mine
end

/-! part Bi -/
section
open PySem PySem.W PyProof.Rows PySem.Calls PyProof.V PySem.Spec PySem.Builtin
set_option maxRecDepth 100000
set_option maxHeartbeats 4000000
namespace Mine
theorem or_nat (x y : Nat) : Builtin.bitOr (x : Int) (y : Int) = ((x ||| y : Nat) : Int) := by
  have h1 : decide (0 ≤ Builtin.bitNot (x : Int)) = false := by simp [Builtin.bitNot]; omega
  have h2 : decide (0 ≤ Builtin.bitNot (y : Int)) = false := by simp [Builtin.bitNot]; omega
  have e : ∀ z : Nat, (Builtin.bitNot (Builtin.bitNot (z : Int))).toNat = z := fun z => by unfold Builtin.bitNot; omega
  unfold Builtin.bitOr Builtin.bitAnd
  rw [h1, h2]
  simp only [e]
  unfold Builtin.bitNot; omega
theorem or_octets {p q : Int} (hp : 0 ≤ p ∧ p ≤ 255) (hq : 0 ≤ q) : Builtin.bitOr p (q * 2 ^ (8 : Int).toNat) = p + 256 * q := by
  obtain ⟨x, rfl⟩ := Int.eq_ofNat_of_zero_le hp.1
  obtain ⟨y, rfl⟩ := Int.eq_ofNat_of_zero_le hq
  have : ((y : Int) * 2 ^ (8 : Int).toNat) = ((y * 256 : Nat) : Int) := by simp
  rw [this, or_nat, Nat.or_comm]
  have h := Nat.shiftLeft_add_eq_or_of_lt (i := 8) (b := x) (by omega) y
  rw [Nat.shiftLeft_eq] at h
  have : (2 : Nat) ^ 8 = 256 := by decide
  rw [this] at h
  rw [← h]
  omega
theorem or_high {x y : Int} (hx : 0 ≤ x) (hy : 0 ≤ y ∧ y ≤ 255) : Builtin.bitOr (x * 2 ^ (8 : Int).toNat) y = 256 * x + y := by
  obtain ⟨p, rfl⟩ := Int.eq_ofNat_of_zero_le hx
  obtain ⟨q, rfl⟩ := Int.eq_ofNat_of_zero_le hy.1
  have : ((p : Int) * 2 ^ (8 : Int).toNat) = ((p * 256 : Nat) : Int) := by simp
  rw [this, or_nat]
  have h := Nat.shiftLeft_add_eq_or_of_lt (i := 8) (b := q) (by omega) p
  rw [Nat.shiftLeft_eq] at h
  have : (2 : Nat) ^ 8 = 256 := by decide
  rw [this] at h
  rw [← h]
  omega
/-- the sum of the words, low octet first -/
def leSum (b : Array UInt8) (n : Nat) : Int := ((List.range n).map fun k => Ba.at_ b (2 * k) + 256 * Ba.at_ b (2 * k + 1)).sum
theorem words_eq (b : Array UInt8) (n : Nat) : ((List.range n).map fun k => Builtin.bitOr (Ba.at_ b (2 * k)) (Ba.at_ b (2 * k + 1) * 2 ^ (8 : Int).toNat)).sum = leSum b n := by
  unfold leSum
  congr 1
  apply List.map_congr_left
  intro k _
  exact or_octets (Ba.at_bound _ _) (Ba.at_bound _ _).1
theorem leSum_succ (b : Array UInt8) (n : Nat) : leSum b (n + 1) = leSum b n + (Ba.at_ b (2 * n) + 256 * Ba.at_ b (2 * n + 1)) := by
  unfold leSum
  rw [List.range_succ, List.map_append, List.sum_append]
  simp
theorem leSum_bound (b : Array UInt8) : ∀ n, 0 ≤ leSum b n ∧ leSum b n ≤ 65535 * n
  | 0 => by simp [leSum]
  | n + 1 => by
    rw [leSum_succ]
    have := leSum_bound b n
    have h1 := Ba.at_bound b (2 * n)
    have h2 := Ba.at_bound b (2 * n + 1)
    omega
/-- what checksum gives of the words' sum -/
def ckv (S : Int) : Int :=
  let s1 := S % 65536 + S / 65536
  let s2 := s1 + s1 / 65536
  let x := (-s2 - 1) % 65536
  (x % 256) * 256 + x / 256 % 256
end Mine
end

/-! part Bb -/
section
open PySem PySem.W PyProof.Rows PySem.Calls PyProof.V PySem.Spec PySem.Builtin
set_option maxRecDepth 100000
set_option maxHeartbeats 4000000
namespace Mine
namespace Ba
theorem bytes_bytes : typeLookup (.type "bytes") "__bytes__" = pure (some (.builtin "bytes.__bytes__")) := by rw [typeLookup_type, builtinLookup_eq_fast]; kernel_rfl
section
variable {prog : Program} {w : World} {A : Around} {E : Value → Shared → Prop} {s : Shared} {b : Array UInt8}
theorem bytes_new_bytes {t : Tok} {Q : Value → Shared → Prop} (hQ : Q (.bytes b t) s) :
    codeAny (model prog w) A (.call (.builtin "bytes.__new__") ⟨[.type "bytes", .bytes b t], []⟩) (wants Q E) s := by
  refine codeAny_of_tree ?_
  show wpAny _ A.in1 (do checkBuiltinCall "bytes.__new__" ⟨[.type "bytes", .bytes b t], []⟩; again (.builtin "bytes.__new__" ⟨[.type "bytes", .bytes b t], []⟩)) _ _ s
  refine wpAny_bind (wpAny_of_eq (F.bm_newCall _) (wpAny_pure ⟨plainId_quiet F.bm_plain _, codeAny_builtin F.bm_entry ?_⟩))
  rw [Around.under_plainId F.bm_plain _]
  unfold Builtin.«bytes.__new__»
  refine wpAny_bind (wpAny_of_eq (a := true) rfl ?_)
  refine bm_if_false rfl ?_
  refine wpAny_bind (wpAny_of_eq F.bm_sub ?_)
  refine bm_if_false rfl ?_
  refine wpAny_bind (wpAny_of_eq (F.bm_bind _) ?_)
  refine wpAny_bind (wpAny_of_eq (a := ()) rfl ?_)
  refine wpAny_bind (wpAny_of_eq (a := ()) rfl ?_)
  refine bm_if_false rfl ?_
  refine wpAny_bind (wpAny_specialOf (T := "bytes") (typeIs_bytes _ _ _) bytes_bytes ?_)
  refine wpAny_bind (wpAny_rule ?_)
  refine wpAny_bind (wpAny_typeOf (typeIs_bytes _ _ _) ?_)
  refine bm_if_true (by decide) ?_
  show wpAny _ _ (if (Value.type "bytes" == Value.type "bytes") = true then _ else _) _ _ _
  refine bm_if_true (by decide) ?_
  first
    | exact wpAny_pure hQ
    | exact wpAny_bind (wpAny_pure (wpAny_pure hQ))
    | exact wpAny_bind (wpAny_pure (wpAny_bind (wpAny_pure (wpAny_pure hQ))))
theorem bytes_of_bytes {t : Tok} {Q : Value → Shared → Prop} (hQ : Q (.bytes b t) s) :
    wpAny (model prog w) A (call (.type "bytes") [.bytes b t]) Q E s := by
  refine callType_codes (Q₁ := fun obj s₁ => s₁.TypeIs obj "bytes" ∧ Q obj s₁) F.bm_called (F.bm_typeCall _) F.entry_object_init
    (bytes_new_bytes ⟨typeIs_bytes _ _ _, hQ⟩) fun obj s₁ h₁ => ?_
  exact ⟨h₁.1, F.args_object_init_2 obj _, object_init_meets F.bm_called.init.lookup F.bm_called.made (by decide) prog w A.in1 _ s₁ ⟨h₁.1, rfl, h₁.2⟩⟩
/-- what bytes(v) gives, wherever the heap has grown to -/
def BytesOf (prog : Program) (w : World) (v : Value) (b : Array UInt8) (h₀ : Heap) : Prop :=
  ∀ (A : Around) (E Q : Value → Shared → Prop) (s' : Shared), (∀ a o, h₀.get? a = some o → s'.heap.get? a = some o) → (∀ t k, Q (.bytes b t) { s' with toks := k }) → wpAny (model prog w) A (call (.type "bytes") [v]) Q E s'
theorem BytesOf.bytes {t : Tok} {h₀ : Heap} : BytesOf prog w (.bytes b t) b h₀ := fun _ _ _ s' _ h => bytes_of_bytes (s := s') (h t s'.toks)
theorem BytesOf.ba {a : Addr} {h₀ : Heap} (ho : h₀.get? a = some (obj b)) (hz : b.size ≤ 16777216) : BytesOf prog w (.ref a) b h₀ := fun _ _ _ _ hk h => bytes_of_ba (hk _ _ ho) hz h
end
end Ba
end Mine
end

/-! part Ck -/
section
open PySem PySem.W PyProof.Rows PySem.Calls PyProof.V PySem.Spec PySem.Builtin
set_option maxRecDepth 100000
set_option maxHeartbeats 4000000
namespace Mine
theorem fill : PySem.Challenge.rw_bi0009_01 = PySem.Challenge.rw_bi0009_01 ∧ hd.heap_39 = hd.heap_39 := by k_fill; exact ⟨rfl, rfl⟩

abbrev calm (A : Around) : Around := { A with handled := none }
theorem Zb.back {h₀ h h' h'' : Heap} {L z TI TO i1 i2 : Addr} {m : Str → Option Value} (F : Fr h₀ L h m) (hnew : ∀ a ∈ [z, TI, TO, i1, i2], h.get? a = none)
    (hold : ∀ a o, h.get? a = some o → h'.get? a = some o) (hk : ∀ a o, a ∉ [z, TI, TO, i1, i2] → h'.get? a = some o → h''.get? a = some o) : Fr h₀ L h'' m :=
  F.keptAll fun a o e => hk a o (fun hm => by rw [hnew a hm] at e; cases e) (hold a o e)
theorem Zb.backN {h₀ h h' h'' : Heap} {L z TI TO i1 i2 : Addr} {news : List (Addr × Obj)} (N : News h₀ L h news) (hnew : ∀ a ∈ [z, TI, TO, i1, i2], h.get? a = none)
    (hold : ∀ a o, h.get? a = some o → h'.get? a = some o) (hk : ∀ a o, a ∉ [z, TI, TO, i1, i2] → h'.get? a = some o → h''.get? a = some o) : News h₀ L h'' news :=
  N.grown fun a o e => hk a o (fun hm => by rw [hnew a hm] at e; cases e) (hold a o e)
theorem ckv_walk (S : Int) : List.foldl (fun a k => a * 256 + k) 0 (KTBy.little 2 (Builtin.bitAnd (Builtin.bitNot (Builtin.bitAnd S 65535 + S.fdiv (2 ^ Int.toNat 16) +
    (Builtin.bitAnd S 65535 + S.fdiv (2 ^ Int.toNat 16)).fdiv (2 ^ Int.toNat 16))) 65535)) = ckv S := by
  have e : (2 : Int) ^ Int.toNat 16 = 65536 := by decide
  rw [e, bitAnd_m16, bitAnd_m16, Int.fdiv_eq_ediv_of_nonneg _ (by decide), Int.fdiv_eq_ediv_of_nonneg _ (by decide)]
  unfold ckv Builtin.bitNot
  simp only [KTBy.little_eq, List.range_succ, List.range_zero, List.nil_append, List.map_append, List.map_cons, List.map_nil, List.foldl_append, List.foldl_cons, List.foldl_nil]
  simp only [Int.pow_zero, Int.pow_one, Int.ediv_one, Int.zero_mul, Int.zero_add]
def Hold (p : Prop) : Prop := p
theorem Hold.intro {p : Prop} (h : Hold p) : p := h
theorem Hold.elim {p : Prop} (h : p) : Hold p := h
section
variable {prog : Program} {w : World} {A : Around} {s : Shared}
/-- a def's call by the library's logic -/
theorem codeAny_call_fr {R : Result → Shared → Prop} {a : Addr} {o : Obj} {fd : FuncData} {body : List Stmt} {args : Args} {binds : List (Str × Value)}
    (hroom : A.depth < recursionLimit) (ho : s.heap.get? a = some o) (hdata : o.data = .func fd) (hlim : s.heap.NoLimit) (hcd : s.heap.CodeRec fd.code fd.qualname)
    (hbody : fd.body = .stmts body) (hbind : BindsTo s fd args binds)
    (hcell : ∀ x ∈ fd.scope.names, x.2 ≠ .cell) (hloc : ∀ x ∈ binds, fd.scope.names.lookup x.1 = some .local)
    (h : ∀ h₁, Fr s.heap s.heap.objs.size h₁ (fun x => binds.reverse.lookup x) → News s.heap s.heap.objs.size h₁ [] →
      wpAny (model prog w) (A.deeper (callEnv fd s.heap.objs.size a)) (execs body (callEnv fd s.heap.objs.size a)) (fun f s' => R (.ok (.ret (match f with | .ret v => v | _ => .none))) s')
        (fun _ _ => False) { s with heap := h₁, toks := s.toks + binds.length })
    (hco : fd.scope.isCoroutine = false := by rfl) (hgen : fd.scope.isGenerator = false := by rfl) (hk : fd.scope.kind = .function := by rfl) :
    codeAny (model prog w) A (.call (.ref a) args) R s := by
  refine codeAny_call_def hroom ho hdata hlim hcd hbody hbind hcell hloc (fun h₀ hns hk' => wpAny_mono (h h₀ ⟨hns, hk', Nat.le_refl _⟩ .nil) (fun _ _ x => x) fun _ _ x => x.elim) hco hgen hk
end

local macro_rules | `(tactic| walk_at "call type:bytes") => `(tactic| (k_here; (with_reducible show wpAny _ _ (call (Value.type "bytes") [_]) _ _ _); (refine (by assumption : Ba.BytesOf _ _ _ _ _) _ _ _ _ (Fr.keep (by assumption)) ?_); intro _ _; walk_say "BYTES"))
local macro_rules | `(tactic| walk_at "subscriptTail Name Slice bytes ref") => `(tactic| (k_here; walk_say "SLICE"; (refine' Ba.slice_bytes ?F ?N ?pl ?pu ?ps ?h0 ?h1 ?hz ?_ ?s ?t; (case F => k_asm); (case N => k_asm); (case pl => first | exact .none | exact .int _ _); (case pu => first | exact .none | exact .int _ _); (case ps => exact .int _ _); (case h0 => decide); (case h1 => rfl); (case hz => (first | rw [Ba.cut_even (by assumption)] | rw [Ba.cut_odd (by assumption)]); (simp only [List.size_toArray, List.length_map, List.length_range]); omega); (case s => with_unfolding_all rfl); (case t => intro _; with_unfolding_all rfl)); intro _ _ _ _ _))
local macro_rules | `(tactic| walk_at "call builtin:int.to_bytes") => `(tactic| refine Hold.intro ?_)
local macro_rules | `(tactic| walk_at "call type:zip") => `(tactic| refine Hold.intro ?_)
local macro_rules | `(tactic| walk_at "eval ListComp") => `(tactic| refine Hold.intro ?_)
section
variable {w : World} {A : Around} {s : Shared} {mg mb : Str → Option Value} {E : Value → Shared → Prop}
abbrev M (w : World) : Model := model PySem.Challenge.pw_bi0009_01 w
theorem ck_call {v : Value} {b : Array UInt8} {Q : Value → Shared → Prop} (X : (hd.heap_39 w.params).In s.heap) (T : TopRead hd.view_39 [] mg mb s.heap) (hby : Ba.BytesOf PySem.Challenge.pw_bi0009_01 w v b s.heap) (hz : b.size ≤ 64) {n : Nat} (hn : b.size = 2 * n) (hroom : (calm A).depth < recursionLimit)
    (hQ : ∀ h' tk t, (∀ a o, s.heap.get? a = some o → h'.get? a = some o) → Q (.int (ckv (leSum b n)) t) { s with heap := h', toks := tk }) :
    codeAny (M w) (calm A) (.call (.ref 19) ⟨[v], []⟩) (wants Q E) s := by
  refine codeAny_call_fr (binds := [(Str.ofString "data", _)]) hroom (X 19 _ (by k_is)) (by exact rfl) T.nolimit ?cd (by exact rfl) (BindsTo.of_eq (by rfl)) (by decide) (locs rfl) ?_
  case cd => exact codeRec_of X (by k_is)
  intro h₁ F N
  w_on
  k_fold
  k_steps
  · rename (Int.fmod _ _ ≠ 0) => hc; rw [hn, Int.fmod_eq_emod_of_nonneg _ (by decide)] at hc; omega
  refine Hold.elim ?_
  refine Zb.listComp (f := fun p q => Builtin.bitOr p (q * 2 ^ (8 : Int).toNat)) ?hh (by decide) (by decide) (by with_unfolding_all rfl) (by decide) (by with_unfolding_all rfl) (by with_unfolding_all rfl) (by decide) ?helt ?hz (by intro _; rfl)
  case hh => rfl
  case helt =>
    intro C p q r r' s₂ m₂ E' hn hx hy
    refine wpAny_BinOp (wpAny_Name (wpAny_loadName_local (by rfl) (by rfl) hn hx (wpAny_BinOp (wpAny_Name (wpAny_loadName_local (by rfl) (by rfl) hn hy (wpAny_Constant_int (lshift_int_small (by decide) (by decide) ?_ (or_int ?_))))))))
    · have := q.toNat_lt; simp only [Int.natAbs_natCast]; omega
    · exact ⟨⟨_, rfl⟩, _, _, rfl, fun _ _ e => e⟩
  case hz =>
    k_steps
    refine Hold.elim ?_
    refine Zb.call_zip ?_
    intro h' z TI TO i1 i2 hA hS hnew hold
    refine ⟨z, TI, TO, i1, i2, _, _, _, _, rfl, hA, hS, ?_, ?_, ?_⟩
    · rw [Ba.cut_even hn, Ba.cut_odd hn]; simp
    · rw [Ba.cut_even hn]; simp; omega
    intro D h'' tk vs hD hL hI hk
    rw [Ba.pairs_eq hn] at hI
    rename_i F₁ N₁
    have F₂ := Zb.back F₁ hnew hold hk
    have N₂ := Zb.backN N₁ hnew hold hk
    have hwd := words_eq b n
    have hS := leSum_bound b n
    generalize hl : ((List.range n).map fun k => Builtin.bitOr (Ba.at_ b (2 * k)) (Ba.at_ b (2 * k + 1) * 2 ^ (8 : Int).toNat)) = ll at hI hwd
    clear hS hA hnew hold hk hD
    k_steps
    refine Hold.elim ?_
    refine KTBy.to_little (k := 2) (B := 65536) (by decide) (by decide) ?_ ?_ ?_
    · rw [bitAnd_m16]; omega
    · rw [bitAnd_m16]; omega
    intro b₂ t₂ k₂ hb₂ hl₂
    k_steps
    show Q (.int _ _) _
    rename_i F₃ N₃ _ _ _
    rw [hwd, ckv_walk]
    exact hQ _ _ _ F₃.keep
end
end Mine
end

/-! part Lc -/
section
open PySem PySem.W PyProof.Rows PySem.Calls PyProof.V PySem.Spec PySem.Builtin
set_option maxRecDepth 100000
set_option maxHeartbeats 4000000
namespace Mine
section
variable {M : Model} {A : Around} {E : Value → Shared → Prop} {s : Shared} {env : Env}
theorem wpC_ite2 {α : Type} {c : Prop} [Decidable c] {a b : Sem α} {Q : α → Shared → Prop} (h : if c then wpC M A a Q E s else wpC M A b Q E s) : wpC M A (if c then a else b) Q E s := by
  by_cases hc : c
  · rw [if_pos hc] at h ⊢; exact h
  · rw [if_neg hc] at h ⊢; exact h
theorem wpC_Call {func : PySem.Expr} {args : List PySem.Expr} {pos : Pos} {Q : Value → Shared → Prop}
    (h : wpAny M A (eval func env) (fun f s₁ => wpC M A (callWith pos f [] (backTo pos (starEach args env)) []) Q E s₁) E s)
    (he : eval (.Call func args [] pos) env = (do callWith pos (← eval func env) [] (backTo pos (starEach args env)) (backToKw pos (keywordEach [] env))) := by rfl) :
    wpC M A (eval (.Call func args [] pos) env) Q E s := by
  rw [he]; exact wpC_step h
theorem wpC_callWith_type {pos : Pos} {T : String} {e : PySem.Expr} {rest : List PySem.Expr} {Q : Value → Shared → Prop}
    (h : wpAny M A (spliced (backTo pos (starEach (e :: rest) env))) (fun vs s₁ => wpC M A (call (.type T) vs) Q E s₁) E s)
    (he : starEach (e :: rest) env = (false, eval e env) :: starEach rest env := by rfl)
    (hplain : (backTo pos (starEach rest env)).any (·.1) = false := by rfl) :
    wpC M A (callWith pos (.type T) [] (backTo pos (starEach (e :: rest) env)) []) Q E s := by
  rw [he] at h ⊢
  have hp : (backTo pos ((false, eval e env) :: starEach rest env)).any (·.1) = false := by show (false || (backTo pos (starEach rest env)).any (·.1)) = false; rw [hplain]; rfl
  have ha : wpAny M A (evalArgs (.type T) true (backTo pos ((false, eval e env) :: starEach rest env)) []) (fun a s₁ => wpC M A (call (.type T) ([] ++ a.pos) a.kw) Q E s₁) E s :=
    evalArgs_plain (Q := fun a s₁ => wpC M A (call (.type T) ([] ++ a.pos) a.kw) Q E s₁) h
  unfold callWith
  refine wpC_bind (wpC_holding (wpC_of (wpAny_mono ha (fun a s₁ h₁ => wpC_step (wpAny_standAt ?_)) fun _ _ x => x)))
  simp only [hp, List.any_nil, Bool.or_false]
  refine wpC_step (wpAny_pure ?_)
  exact wpC_bind (wpC_mono h₁ (fun r s₂ hr => wpC_step (wpAny_holding (wpAny_point (wpC_pure hr)))) fun _ _ x => x)
theorem wpC_callWith_function {pos : Pos} {a : Addr} {o : Obj} {fd : FuncData} {e : PySem.Expr} {rest : List PySem.Expr} {Q : Value → Shared → Prop}
    (h : wpAny M A (spliced (backTo pos (starEach (e :: rest) env))) (fun vs s₁ => (s₁.heap.get? a = some o ∧ o.data = .func fd) ∧ wpC M A (call (.ref a) vs) Q E s₁) E s)
    (he : starEach (e :: rest) env = (false, eval e env) :: starEach rest env := by rfl) :
    wpC M A (callWith pos (.ref a) [] (backTo pos (starEach (e :: rest) env)) []) Q E s := by
  rw [he] at h ⊢
  have ha : wpAny M A (evalArgs (.ref a) true (backTo pos ((false, eval e env) :: starEach rest env)) []) (fun x s₁ => (s₁.heap.get? a = some o ∧ o.data = .func fd) ∧ wpC M A (call (.ref a) ([] ++ x.pos) x.kw) Q E s₁) E s :=
    evalArgs_plain (Q := fun x s₁ => (s₁.heap.get? a = some o ∧ o.data = .func fd) ∧ wpC M A (call (.ref a) ([] ++ x.pos) x.kw) Q E s₁) h
  unfold callWith
  refine wpC_bind (wpC_holding (wpC_of (wpAny_mono ha (fun x s₁ h₁ => wpC_step (wpAny_standAt ?_)) fun _ _ x => x)))
  have tail : ∀ {t : Sem Value}, wpC M A t Q E s₁ → wpC M A (t >>= fun r => holding [r] point >>= fun _ => pure r) Q E s₁ :=
    fun ht => wpC_bind (wpC_mono ht (fun r s₂ hr => wpC_step (wpAny_holding (wpAny_point (wpC_pure hr)))) fun _ _ x => x)
  cases hs : (backTo pos ((false, eval e env) :: starEach rest env)).any (·.1) <;> simp only [List.any_nil, Bool.or_false] <;>
    refine wpC_step (m := keeperOf (.ref a)) ?_ <;> unfold keeperOf <;>
    refine wpAny_bind (wpAny_load h₁.1.1 ?_) <;> rw [h₁.1.2] <;> refine wpAny_pure ?_
  · first
      | refine wpC_ite2 ?_
      | skip
    split <;> first
      | exact tail h₁.2
      | exact tail (by unfold callMarked; exact wpC_keep h₁.2)
  · exact tail (wpC_keep h₁.2)
theorem wpC_Assign_Name {x pos' value pos} {Q : Flow → Shared → Prop}
    (h : wpC M A (eval value env) (fun v s₁ => wpAny M A (storeName env x v) (fun _ => Q .next) E s₁) E s)
    (hs : swapsWith value (some (.Name x pos')) pos.line env = pure false := by rfl) :
    wpC M A (exec (.Assign [.Name x pos'] value pos) env) Q E s := by
  rw [exec_Assign_Name env x pos' value pos hs]
  refine wpC_step (wpAny_standAt (wpC_bind (wpC_mono h (fun v s₁ h₁ => wpC_of (wpAny_bind (wpAny_standAt (wpAny_bind ?_)))) fun _ _ x => x)))
  unfold bindName
  exact wpAny_bind (wpAny_holding (wpAny_point (wpAny_bind (wpAny_mono h₁ (fun _ _ h₂ => wpAny_point (wpAny_pure h₂)) fun _ _ x => x))))
theorem wpAny_release {vs keep : List Value} {Q : Unit → Shared → Prop} (h : Q () s) : wpAny M A (release vs keep) Q E s := fun Γ p _ => by
  rw [Sem.wp_release]; exact h
theorem wpC_Assign_Subscript {o i pos' value pos} {Q : Flow → Shared → Prop}
    (h : wpAny M A (eval value env) (fun v s₁ => wpAny M A (eval o env) (fun ov s₂ => wpAny M A (eval i env) (fun iv s₃ =>
      wpC M A (setItem ov iv v) (fun _ => Q .next) E s₃) E s₂) E s₁) E s)
    (hs : swapsWith value (some (.Subscript o i pos')) pos.line env = pure false := by rfl) :
    wpC M A (exec (.Assign [.Subscript o i pos'] value pos) env) Q E s := by
  rw [exec_Assign_Subscript o i pos' value pos hs]
  simp only [assign_Subscript]
  refine wpC_step (wpAny_standAt (wpC_step (wpAny_mono h (fun v s₁ h₁ => ?_) fun _ _ x => x)))
  refine wpC_bind (wpC_step (wpAny_holding (wpAny_mono h₁ (fun ov s₂ h₂ => wpC_step (wpAny_holding (wpAny_mono h₂ (fun iv s₃ h₃ => wpC_step (wpAny_standAt ?_)) fun _ _ x => x))) fun _ _ x => x)))
  exact wpC_bind (wpC_holding (wpC_mono h₃ (fun _ _ h₄ => wpC_of (wpAny_release (wpC_pure h₄))) fun _ _ x => x))
theorem wpC_If {test body orelse pos} {Q : Flow → Shared → Prop}
    (h : wpC M A (isTrue test env (eval test env)) (fun b s₁ => if b then wpC M A (execs body env) Q E s₁ else wpC M A (execs orelse env) Q E s₁) E s) :
    wpC M A (exec (.If test body orelse pos) env) Q E s := by
  rw [exec_If]
  refine wpC_step (wpAny_standAt (wpC_bind (wpC_mono h (fun b s₁ h₁ => ?_) fun _ _ x => x)))
  cases b <;> exact h₁
theorem wpC_isTrue_or {x rest pos whole} {Q : Bool → Shared → Prop}
    (h : wpC M A (isTrue x env (eval x env)) (fun c s' => if c then Q true s' else wpAny M A (isTrue (.BoolOp .Or rest pos) env whole) Q E s') E s) :
    wpC M A (isTrue (.BoolOp .Or (x :: rest) pos) env whole) Q E s := by
  show wpC M A (do
    match BoolOp.Or, ← isTrue x env (eval x env) with
    | .And, false => pure false
    | .Or, true => pure true
    | _, _ => allTrue .Or rest env) Q E s
  refine wpC_bind (wpC_mono h (fun c s' h' => ?_) fun _ _ x => x)
  cases c with
  | true => exact wpC_pure h'
  | false => exact wpC_of h'
theorem wpC_isTrue_Compare1 {l op r pos whole} {Q : Bool → Shared → Prop}
    (h : wpC M A (eval l env) (fun a s₁ => wpAny M A (eval r env) (fun b s₂ => wpAny M A (compareOp op a b) (fun c s₃ => wpAny M A (truthy c) Q E s₃) E s₂) E s₁) E s)
    (hm : behindInMarks op r = false := by with_unfolding_all rfl) :
    wpC M A (isTrue (.Compare l [op] [r] pos) env whole) Q E s := by
  rw [isTrue_Compare1]
  refine wpC_bind (wpC_mono h (fun a s₁ h₁ => wpC_of ?_) fun _ _ x => x)
  have e : markedBehindIn op r (eval r env) = eval r env := by unfold markedBehindIn; rw [hm]
  rw [e]
  refine wpAny_bind (wpAny_holding (wpAny_mono h₁ (fun b s₂ h₂ => wpAny_bind (wpAny_standAt (wpAny_bind (wpAny_operating (wpAny_mono h₂ (fun c s₃ h₃ => wpAny_holding h₃) fun _ _ x => x))))) fun _ _ x => x))
theorem wpC_Compare1 {l op r pos} {Q : Value → Shared → Prop}
    (h : wpC M A (eval l env) (fun a s₁ => wpAny M A (eval r env) (fun b s₂ => wpAny M A (compareOp op a b) Q E s₂) E s₁) E s)
    (hm : behindInMarks op r = false := by with_unfolding_all rfl) :
    wpC M A (eval (.Compare l [op] [r] pos) env) Q E s := by
  rw [eval_Compare1]
  refine wpC_bind (wpC_mono h (fun a s₁ h₁ => wpC_of ?_) fun _ _ x => x)
  have e : markedBehindIn op r (eval r env) = eval r env := by unfold markedBehindIn; rw [hm]
  rw [e]
  exact wpAny_bind (wpAny_holding (wpAny_mono h₁ (fun b s₂ h₂ => wpAny_bind (wpAny_standAt (wpAny_operating h₂))) fun _ _ x => x))
theorem wpC_Return_some {e pos} {Q : Flow → Shared → Prop} (h : wpC M A (eval e env) (fun v s₁ => Q (.ret v) s₁) E s) : wpC M A (exec (.Return (some e) pos) env) Q E s := by
  rw [exec_Return_some]
  exact wpC_step (wpAny_standAt (wpC_bind (wpC_mono h (fun _ _ h₁ => wpC_pure h₁) fun _ _ x => x)))
end
end Mine
end

/-! part Sr -/
section
open PySem PySem.W PyProof.Rows PySem.Calls PyProof.V PySem.Spec PySem.Builtin
set_option maxRecDepth 100000
set_option maxHeartbeats 4000000
namespace Mine
namespace Ba
section
variable {prog : Program} {w : World} {A : Around} {E : Value → Shared → Prop} {s : Shared} {b : Array UInt8} {v : Value} {h₀ : Heap}
/-- a bytearray or bytes, whose octets are b -/
def Src (v : Value) (b : Array UInt8) (h₀ : Heap) : Prop := (∃ a, v = .ref a ∧ h₀.get? a = some (obj b)) ∨ (∃ t, v = .bytes b t)
theorem Src.len (x : Src v b h₀) (hk : ∀ a o, h₀.get? a = some o → s.heap.get? a = some o) (hf : b.size ≤ 16777216) {Q : Value → Shared → Prop} (h : ∀ t k, Q (.int b.size t) { s with toks := k }) :
    wpAny (model prog w) A (call (.builtin "len") [v]) Q E s := by
  rcases x with ⟨a, rfl, ho⟩ | ⟨t, rfl⟩
  · exact Ba.len (hk _ _ ho) (by omega) (h _ _)
  · exact KBw.len_K rfl (by rw [KBw.ints_length]; omega) (by rw [KBw.ints_length]; exact h _ _)
theorem Src.new (x : Src v b h₀) (hk : ∀ a o, h₀.get? a = some o → s.heap.get? a = some o) (hf : b.size ≤ 16777216) {Q : Value → Shared → Prop}
    (h : ∀ h', h'.get? s.heap.objs.size = some (obj b) → (∀ x o, s.heap.get? x = some o → h'.get? x = some o) → Q (.ref s.heap.objs.size) { s with heap := h' }) :
    wpC (model prog w) A (call (.type "bytearray") [v]) Q E s := by
  rcases x with ⟨a, rfl, ho⟩ | ⟨t, rfl⟩
  · exact new_ba (hk _ _ ho) hf h
  · exact new_bytes hf h
theorem Src.bytesOf (x : Src v b h₀) (hf : b.size ≤ 16777216) : BytesOf prog w v b h₀ := by
  rcases x with ⟨a, rfl, ho⟩ | ⟨t, rfl⟩
  · exact .ba ho hf
  · exact .bytes
end
end Ba
end Mine
end

/-! part Lo -/
section
open PySem PySem.W PyProof.Rows PySem.Calls PyProof.V PySem.Spec PySem.Builtin
set_option maxRecDepth 100000
set_option maxHeartbeats 4000000
namespace Mine
theorem News.addNew {h₀ h h' : Heap} {L : Addr} {m : Str → Option Value} {news : List (Addr × Obj)} {o : Obj} (F : Fr h₀ L h m) (N : News h₀ L h news)
    (hk : ∀ x o, h.get? x = some o → h'.get? x = some o) (hD : h'.get? h.objs.size = some o) : News h₀ L h' ((h.objs.size, o) :: news) := by
  intro p hp
  rcases List.mem_cons.mp hp with rfl | hp
  · refine ⟨hD, fun e => absurd F.ns.lt (by rw [← e]; exact Nat.lt_irrefl _), ?_⟩
    cases e : h₀.get? h.objs.size with
    | none => rfl
    | some o => exact absurd (Heap.lt_size (F.keep _ _ e)) (Nat.lt_irrefl _)
  · exact ⟨hk _ _ (N p hp).1, (N p hp).2⟩
theorem Fr.but {h₀ h h' : Heap} {L D : Addr} {m : Str → Option Value} (F : Fr h₀ L h m) (hk : ∀ x o, x ≠ D → h.get? x = some o → h'.get? x = some o) (hL : D ≠ L) (hn : h₀.get? D = none) : Fr h₀ L h' m :=
  ⟨F.ns.at' fun o e => hk _ o (Ne.symm hL) e, fun x o e => hk x o (fun q => by rw [q, hn] at e; cases e) (F.keep x o e), F.above⟩
section
variable {prog : Program} {w : World} {A : Around} {E : Value → Shared → Prop} {s : Shared} {env : Env} {h₀ : Heap} {x : Str} {body : List Stmt} {Q : Flow → Shared → Prop}
theorem Ba.loop {D : Addr} {z : Array UInt8} {m₀ : Str → Option Value} {news : List (Addr × Obj)} (J : (Str → Option Value) → Nat → (Str → Option Value) → List (Addr × Obj) → Prop)
    (hh : A.handled = none) (ho : s.heap.get? D = some (Ba.obj z)) (F : Fr h₀ env.locals s.heap m₀) (N : News h₀ env.locals s.heap news) (hne : D ≠ env.locals) (hnw : ∀ p ∈ news, p.1 ≠ D) (hj : J m₀ 0 m₀ news)
    (turn : ∀ i c t m₁ news₁ h tk own, z[i]? = some c → OwnOff own (news.map (·.1)) → J m₀ i m₁ news₁ → Fr h₀ env.locals h (fun y => if y = x then some (.int (c.toNat : Int) t) else m₁ y) → News h₀ env.locals h (news₁ ++ own) →
      wpAny (model prog w) A (execs body env) (InvPostN h₀ env.locals (J m₀ (i + 1)) own (news.map (·.1)) { s with heap := h, toks := tk } Q) E { s with heap := h, toks := tk })
    (done : ∀ m₁ news₁ h tk, J m₀ z.size m₁ news₁ → Fr h₀ env.locals h m₁ → News h₀ env.locals h news₁ → Q .next { s with heap := h, toks := tk }) :
    wpAny (model prog w) A (PySem.pyIter (.ref D)) (fun it s₂ => LoopAtV prog w A h₀ env x body Q E it s₂) E s := by
  refine Ba.pyIter ho ?_
  have hlt : D < s.heap.objs.size := Heap.lt_size ho
  have hI : ∀ p ∈ news, p.1 ≠ s.heap.objs.size := fun p hp => Nat.ne_of_lt (Heap.lt_size (N p hp).1)
  refine loop_invN (J m₀) (Ba.walks hh s.heap.objs.size D (Nat.ne_of_lt hlt) z) ?_ ?_ ?_ ?_ ?_ (F.push _) (N.grown fun _ _ e => Heap.get?_push_of_some _ e) hj ?_ ?_
  · intro hm
    rcases List.mem_cons.mp hm with e | hm
    · exact absurd F.ns.lt (by rw [e]; exact Nat.lt_irrefl _)
    · exact hne (List.mem_singleton.mp hm).symm
  · intro b hb
    obtain rfl := List.mem_singleton.mp hb
    cases e : h₀.get? s.heap.objs.size with
    | none => rfl
    | some o => exact absurd (Heap.lt_size (F.keep _ _ e)) (Nat.lt_irrefl _)
  · intro p hp hm
    exact hI p hp (List.mem_singleton.mp hm)
  · intro q hq hm
    rcases List.mem_cons.mp hm with e | hm
    · exact hI q hq e
    · exact hnw q hq (List.mem_singleton.mp hm)
  · exact ⟨⟨_, Heap.get?_push_size _ rfl, rfl, rfl⟩, Heap.get?_push_of_some _ ho⟩
  · rintro i v m₁ news₁ h tk own hi ⟨c, u, hc, rfl⟩ hadr hoff hJ F₁ N₁
    exact turn i c u m₁ news₁ h tk own hc hoff hJ F₁ N₁
  · intro m₁ news₁ h tk hJ F₁ N₁
    exact done m₁ news₁ h tk hJ F₁ N₁
theorem While_M {m : Str → Option Value} {news : List (Addr × Obj)} {L : Addr} {test : PySem.Expr} {pos : Pos} (J : (Str → Option Value) → Nat → (Str → Option Value) → List (Addr × Obj) → Prop) {n₀ : Nat}
    (F : Fr h₀ L s.heap m) (N : News h₀ L s.heap news) (hJ : J m n₀ m news)
    (turn : ∀ n m₁ news₁ h₁ tk₁, Fr h₀ L h₁ m₁ → News h₀ L h₁ news₁ → J m n m₁ news₁ →
      wpAny (model prog w) A (isTrue test env (eval test env)) (fun b s₂ =>
        if b = true then wpAny (model prog w) A (execs body env) (WhileStep h₀ L s (J m) n) E s₂ else Q .next s₂) E { s with heap := h₁, toks := tk₁ })
    (hE : PassesOwn (model prog w) A env E := by passes_own) :
    wpAny (model prog w) A (exec (.While test body [] pos) env) Q E s := While_inv (J m) F N hJ turn hE
/-- one octet of the one bytearray of the ledger's head is set -/
theorem Ba.set_head {D L : Addr} {z : Array UInt8} {k v : Int} {u t : Tok} {m : Str → Option Value} {news : List (Addr × Obj)} {Q : Unit → Shared → Prop} (F : Fr h₀ L s.heap m) (N : News h₀ L s.heap ((D, Ba.obj z) :: news)) (hap : ∀ p ∈ news, p.1 ≠ D)
    (h0 : 0 ≤ k) (h1 : k < z.size) (hz : z.size ≤ 16777216) (hv0 : 0 ≤ v) (hv1 : v < 256)
    (h : ∀ h', Fr h₀ L h' m → News h₀ L h' ((D, Ba.obj (z.setIfInBounds k.toNat v.toNat.toUInt8)) :: news) → Q () { s with heap := h' }) :
    wpAny (model prog w) A (PySem.setItem (.ref D) (.int k u) (.int v t)) Q E s := by
  have hD := N _ (.head _)
  refine Ba.setItem hD.1 h0 h1 hz hv0 hv1 fun h' hs hb => ?_
  exact h h' (F.change hb hD.2.1 hD.2.2) (N.setHead hap hb hs)
end
end Mine
end

/-! part Fl -/
section
open PySem PySem.W PyProof.Rows PySem.Calls PyProof.V PySem.Spec PySem.Builtin
set_option maxRecDepth 100000
set_option maxHeartbeats 4000000


namespace Mine
theorem fill2 : PySem.Challenge.rw_bi0009_01 = PySem.Challenge.rw_bi0009_01 ∧ hd.heap_39 = hd.heap_39 := by k_fill; exact ⟨rfl, rfl⟩
local macro_rules | `(tactic| walk_at "call builtin:len") => `(tactic| (k_here; (with_reducible show wpAny _ _ (call (Value.builtin "len") [_]) _ _ _); (refine Ba.Src.len (by assumption : Ba.Src _ _ _) (Fr.keep (by assumption)) (by omega) ?_); intro _ _; walk_say "LEN"))
theorem boot_bytearray : bootBuiltins "bytearray" = some (.type "bytearray") := by decide +kernel
local macro_rules | `(tactic| boot_fact) => `(tactic| with_reducible exact boot_bytearray)
local macro_rules | `(tactic| walk_at "callWith type:bytearray") => `(tactic| refine Hold.intro ?_)
def Ba.zeroed (b : Array UInt8) (off : Int) : Array UInt8 := b.extract 0 off.toNat ++ byteArr [0, 0] ++ b.extract (off + 2).toNat b.size
theorem Ba.cut_all {z : Array UInt8} {lo hi : Int} (h1 : lo = 0) (h2 : hi = z.size) : Ba.cut z (some lo) (some hi) none = z := by
  subst h1; subst h2
  have := Ba.cut_run (b := z) (lo := 0) (hi := z.size) (Nat.zero_le _) (Nat.le_refl _)
  rw [Int.natCast_zero] at this
  rw [this]; simp
theorem Ba.zeroed_size {b : Array UInt8} {off : Int} (h0 : 0 ≤ off) (h1 : off + 1 < b.size) : (Ba.zeroed b off).size = b.size := by
  unfold Ba.zeroed
  simp [byteArr]
  omega
/-- the sum of the octets, and the sum of the sums -/
def Ba.c0 (z : Array UInt8) (k : Nat) : Int := ((List.range k).map fun i => Ba.at_ z i).sum
def Ba.c1 (z : Array UInt8) : Nat → Int
  | 0 => 0
  | k + 1 => Ba.c1 z k + Ba.c0 z (k + 1)
def Ba.loopMap (M : Str → Option Value) (z : Array UInt8) (i : Nat) (dv : Option Value) (t₁ t₂ : Tok) : Str → Option Value := fun y =>
  if y = Str.ofString "c1" then some (.int (Ba.c1 z i) t₁) else if y = Str.ofString "c0" then some (.int (Ba.c0 z i) t₂) else if y = Str.ofString "d" then dv else M y
theorem Ba.loopMap_start {M : Str → Option Value} {z : Array UInt8} {t₁ t₂ : Tok} (h1 : M (Str.ofString "c1") = some (.int 0 t₁)) (h2 : M (Str.ofString "c0") = some (.int 0 t₂)) (h3 : M (Str.ofString "d") = none) :
    ∃ t₁ t₂ dv, M = Ba.loopMap M z 0 dv t₁ t₂ := by
  refine ⟨t₁, t₂, none, ?_⟩
  funext y
  unfold Ba.loopMap
  by_cases e1 : y = Str.ofString "c1"
  · rw [if_pos e1, e1, h1]; rfl
  · rw [if_neg e1]
    by_cases e2 : y = Str.ofString "c0"
    · rw [if_pos e2, e2, h2]; rfl
    · rw [if_neg e2]
      by_cases e3 : y = Str.ofString "d"
      · rw [if_pos e3, e3, h3]
      · rw [if_neg e3]
def Ba.flMap (M : Str → Option Value) (z : Array UInt8) (n : Nat) (dv : Option Value) (tl t₀ t₁ t₂ : Tok) : Str → Option Value := fun y =>
  if y = Str.ofString "pos" then some (.int n t₀) else if y = Str.ofString "c1" then some (.int ((Ba.c1 z n) % 255) t₁) else if y = Str.ofString "c0" then some (.int (Ba.c0 z n % 255) t₂)
  else if y = Str.ofString "d" then dv else if y = Str.ofString "tlen" then some (.int n tl) else M y
local macro_rules | `(tactic| walk_at "pyIter ref") => `(tactic| refine Hold.intro ?_)
local macro_rules | `(tactic| walk_at "subscriptTail Name Slice ref ref") => `(tactic| (k_here; walk_say "SLICE BA"; refine Hold.intro ?_))
local macro_rules | `(tactic| walk_at "exec For Name Subscript cons nil") => `(tactic| (k_here; (rename Fr _ _ _ _ => lF'); (with_unfolding_all refine' For_invVF lF' ?k1 ?k2 ?_; (case k1 => exact rfl); (case k2 => exact rfl); k_whole); walk_say "FOR"))
theorem Ba.c0_succ (z : Array UInt8) (k : Nat) : Ba.c0 z (k + 1) = Ba.c0 z k + Ba.at_ z k := by
  unfold Ba.c0
  rw [List.range_succ, List.map_append, List.sum_append]
  simp
theorem Ba.loopMap_step {M : Str → Option Value} {z : Array UInt8} {i : Nat} {c : UInt8} (hc : z[i]? = some c) {dv : Option Value} {t₁ t₂ ta tb t : Tok} :
    (fun y => if y = Str.ofString "c1" then some (.int (Ba.c1 z i + (Ba.c0 z i + (c.toNat : Int))) ta) else if y = Str.ofString "c0" then some (.int (Ba.c0 z i + (c.toNat : Int)) tb)
      else if y = Str.ofString "d" then some (.int (c.toNat : Int) t) else Ba.loopMap M z i dv t₁ t₂ y) = Ba.loopMap M z (i + 1) (some (.int (c.toNat : Int) t)) ta tb := by
  have e : Ba.at_ z i = (c.toNat : Int) := by
    unfold Ba.at_
    obtain ⟨h, rfl⟩ := Array.getElem?_eq_some_iff.mp hc
    simp [Array.getD, h]
  funext y
  unfold Ba.loopMap
  rw [show Ba.c1 z (i + 1) = Ba.c1 z i + Ba.c0 z (i + 1) from rfl, Ba.c0_succ, e]
  by_cases e1 : y = Str.ofString "c1"
  · simp only [if_pos e1]
  · simp only [if_neg e1]
    by_cases e2 : y = Str.ofString "c0"
    · simp only [if_pos e2]
    · simp only [if_neg e2]
      by_cases e3 : y = Str.ofString "d"
      · simp only [if_pos e3]
      · simp only [if_neg e3]
theorem Ba.flMap_end {M : Str → Option Value} {z : Array UInt8} {n : Nat} {p : Int} (hp : p = n) {dv : Option Value} {t₁ t₂ ta tb tc tl : Tok} :
    (fun y => if y = Str.ofString "pos" then some (.int p ta) else if y = Str.ofString "c1" then some (.int ((Ba.c1 z n).fmod 255) tb) else if y = Str.ofString "c0" then some (.int ((Ba.c0 z n).fmod 255) tc)
      else Ba.loopMap (fun y => if y = Str.ofString "tlen" then some (.int (n : Int) tl) else M y) z n dv t₁ t₂ y) = Ba.flMap M z n dv tl ta tb tc := by
  subst hp
  funext y
  unfold Ba.flMap Ba.loopMap
  rw [Int.fmod_eq_emod_of_nonneg _ (by decide), Int.fmod_eq_emod_of_nonneg _ (by decide)]
  by_cases e0 : y = Str.ofString "pos"
  · simp only [if_pos e0]
  · simp only [if_neg e0]
    by_cases e1 : y = Str.ofString "c1"
    · simp only [if_pos e1]
    · simp only [if_neg e1]
      by_cases e2 : y = Str.ofString "c0"
      · simp only [if_pos e2]
      · simp only [if_neg e2]
/-- what the two octets must be, of the zeroed row -/
def Ba.FlRes (z : Array UInt8) (off x y : Int) : Prop :=
  (1 ≤ x ∧ x ≤ 255) ∧ (1 ≤ y ∧ y ≤ 255) ∧ ((z.size - off - 1) * Ba.c0 z z.size - Ba.c1 z z.size - x) % 255 = 0 ∧ (Ba.c0 z z.size + x + y) % 255 = 0
theorem Ba.fl_nums {L off P R x y : Int} (hx : (((L - off - 1) * (P % 255) - R % 255).fmod 255 ≤ 0 ∧ x = ((L - off - 1) * (P % 255) - R % 255).fmod 255 + 255) ∨ (¬ ((L - off - 1) * (P % 255) - R % 255).fmod 255 ≤ 0 ∧ x = ((L - off - 1) * (P % 255) - R % 255).fmod 255))
    (hy : (255 < 510 - P % 255 - x ∧ y = 510 - P % 255 - x - 255) ∨ (¬ 255 < 510 - P % 255 - x ∧ y = 510 - P % 255 - x)) :
    (1 ≤ x ∧ x ≤ 255) ∧ (1 ≤ y ∧ y ≤ 255) ∧ ((L - off - 1) * P - R - x) % 255 = 0 ∧ (P + x + y) % 255 = 0 := by
  rw [Int.fmod_eq_emod_of_nonneg _ (by decide)] at hx
  have e : (L - off - 1) * (P % 255) = (L - off - 1) * P - 255 * ((L - off - 1) * (P / 255)) := by
    rw [Int.emod_def, Int.mul_sub, Int.mul_left_comm]
  rw [e] at hx
  generalize (L - off - 1) * P = u at *
  generalize (L - off - 1) * (P / 255) = w at *
  omega
local macro_rules | `(tactic| walk_at "exec While") => `(tactic| refine Hold.intro ?_)
section
variable {w : World} {A : Around} {s : Shared} {mg mb : Str → Option Value}
theorem fl_call {v : Value} {b : Array UInt8} {off : Int} {u : Tok} {Q : Value → Shared → Prop} (X : (hd.heap_39 w.params).In s.heap) (T : TopRead hd.view_39 [] mg mb s.heap) (hsrc : Ba.Src v b s.heap) (hz : b.size ≤ 64)
    (h0 : 0 ≤ off) (h1 : off + 1 < b.size) (hroom : (calm A).depth < recursionLimit)
    (hQ : ∀ h' tk t x y, (∀ a o, s.heap.get? a = some o → h'.get? a = some o) → Ba.FlRes (Ba.zeroed b off) off x y → Q (.int (256 * x + y) t) { s with heap := h', toks := tk }) :
    codeC (M w) (calm A) (.call (.ref 26) ⟨[v, .int off u], []⟩) (wants Q (fun _ _ => False)) s := by
  refine codeC_call_def (binds := [(Str.ofString "data", _), (Str.ofString "offset", _)]) hroom (X 26 _ (by k_is)) (by exact rfl) T.nolimit ?cd (by exact rfl) (BindsTo.of_eq (by rfl)) (by decide) (locs rfl) ?_
  case cd => exact codeRec_of X (by k_is)
  intro h₁ F
  have N : News s.heap s.heap.objs.size h₁ [] := .nil
  w_on
  refine wpC_execs_cons (wpC_of ?_); k_fold; k_steps
  refine wpC_execs_cons (wpC_of ?_); k_steps
  refine wpC_execs_cons (wpC_of ?_); k_steps
  refine wpC_execs_cons (wpC_of ?_); k_steps
  refine wpC_execs_cons (wpC_Assign_Name (wpC_Call ?_)); k_steps
  refine wpC_callWith_type ?_; k_steps
  rename_i h' F₁ N₁
  refine hsrc.new F₁.keep (by omega) ?_
  intro h₂ hD hk
  have F₂ := F₁.keptAll hk
  have N₂ := News.addNew F₁ N₁ hk hD
  dsimp only at hD F₂ N₂ ⊢
  generalize h'.objs.size = D at hD N₂ ⊢
  clear F₁ N₁
  k_steps
  refine wpC_execs_cons (wpC_Assign_Subscript ?_); k_steps
  rename_i F₃ N₃ i1 n1 s1 e1 e2 e3 l1
  have hL₃ : D ≠ s.heap.objs.size ∧ s.heap.get? D = none := (N₃ (D, Ba.obj b) (.tail _ (.tail _ (.head _)))).2
  refine Ba.setSlice (b := b) (ns := [0, 0]) (Heap.get?_push_of_some _ (N₃.get (.tail _ (.tail _ (.head _))))) (Heap.IsSliceOf.new ..) (Heap.IsList.push ⟨_, N₃.get (.head _), rfl, _, rfl⟩ _)
    (fun e => Nat.lt_irrefl _ (e ▸ l1.2)) (by exact i1) (by decide) h0 (by omega) (by omega) (by show (2 : Int) = _; omega) (by omega) ?_
  intro h₄ hD₄ hk₄
  have F₄ := Fr.but (D := D) (h' := h₄) F₃ (fun x o hx e => hk₄ x o hx (Heap.get?_push_of_some _ e)) hL₃.1 hL₃.2
  have N₄ : News s.heap s.heap.objs.size h₄ [(D, Ba.obj (Ba.zeroed b off))] := fun p hp => by
    obtain rfl := List.mem_singleton.mp hp
    exact ⟨hD₄, hL₃⟩
  clear F₃ N₃ i1 s1 e1 e2 e3 l1 hD₄ hk₄ hD hk
  dsimp only at F₄ N₄ ⊢
  refine wpC_of ?_
  k_steps
  refine Hold.elim ?_
  have hsz : (Ba.zeroed b off).size = b.size := Ba.zeroed_size h0 h1
  generalize hzd : Ba.zeroed b off = z at N₄ hsz
  refine While_M (fun M n m news => news = [(D, Ba.obj z)] ∧ ((n = 1 ∧ m = M) ∨ (n = 0 ∧ ∃ t₀ t₁ t₂ tl dv, m = Ba.flMap M z b.size dv tl t₀ t₁ t₂))) (n₀ := 1) F₄ N₄ ⟨rfl, Or.inl ⟨rfl, rfl⟩⟩ ?_
  rintro n m₁ news₁ h₅ tk₁ F₅ N₅ ⟨rfl, ⟨rfl, rfl⟩ | ⟨rfl, t₀, t₁, t₂, tl, dv, rfl⟩⟩
  all_goals clear F₄ N₄
  · k_steps
    refine Hold.elim ?_
    rename_i h₆ F₆ N₆
    have htl : (if (4102 : Int) < ↑b.size - 0 then 4102 else (b.size : Int) - 0) = b.size := by rw [if_neg (by omega)]; omega
    rw [htl] at F₆
    rw [htl]
    refine Ba.slice_ba F₆ N₆ (N₆.get (.head _)) (.int _ _) (.int _ _) .none (by decide) (by rw [Ba.cut_all (by omega) (by omega)]; omega) ?_
    intro h₇ D₂ F₇ N₇ hk₇ hD₂ hD₃ hD₄ hD₅
    rw [Ba.cut_all (by omega) (by omega)] at hD₅
    have hDD : D ≠ D₂ := fun e => by rw [← e] at hD₂; exact absurd (N₆.get (.head _)) (by rw [hD₂]; exact fun x => nomatch x)
    dsimp only
    clear F₆ N₆ hk₇
    k_steps
    refine Hold.elim ?_
    refine Ba.loop (fun M i m nx => nx = [(D, Ba.obj z)] ∧ ∃ t₁ t₂ dv, m = Ba.loopMap M z i dv t₁ t₂) rfl hD₅ F₇ N₇ hD₄ (fun p hp => by obtain rfl := List.mem_singleton.mp hp; exact hDD) ⟨rfl, Ba.loopMap_start (by rfl) (by rfl) (by rfl)⟩ ?_ ?_
    · rintro i c t m₁ news₁ h tk own hc hoff ⟨rfl, t₁, t₂, dv, rfl⟩ F₈ N₈
      clear F₇ N₇
      k_steps
      rename_i F₉ N₉
      exact ⟨_, _, _, _, [(D, Ba.obj z)], rfl, F₉, N₉, fun p hp => List.mem_append_left _ hp, fun p hp => List.mem_append_right _ hp, rfl, rfl, _, _, _, Ba.loopMap_step hc⟩
    · rintro m₁ news₁ h tk ⟨rfl, t₁, t₂, dv, rfl⟩ F₈ N₈
      clear F₇ N₇
      k_steps
      rename_i F₉ N₉
      rw [hsz] at F₉
      exact ⟨rfl, _, _, _, _, 0, rfl, F₉, N₉, by decide, rfl, Or.inr ⟨rfl, _, _, _, _, _, Ba.flMap_end (by omega)⟩⟩
  · k_steps
    rename_i rx tx hx1 tkx hJx hBx hx hy1 Fy Ny ry ty hy2 tky F'' N'' hJy hBy hy
    have hN := Ba.fl_nums hx hy
    clear hJx hJy hBx hBy hx hy Fy Ny
    refine Ba.set_head F'' N'' (fun p hp => nomatch hp) h0 (by omega) (by omega) (by omega) (by omega) ?_
    intro h₈ F₈ N₈
    clear F'' N''
    dsimp only
    k_steps
    refine Ba.set_head F₈ N₈ (fun p hp => nomatch hp) (by omega) (by rw [Array.size_setIfInBounds]; omega) (by rw [Array.size_setIfInBounds]; omega) (by omega) (by omega) ?_
    intro h₁₀ F₁₀ N₁₀
    clear F₈ N₈
    dsimp only
    k_steps
    show Q (.int (Builtin.bitOr (rx * 2 ^ (8 : Int).toNat) (Builtin.bitAnd ry 255)) _) _
    have er : Builtin.bitAnd ry 255 = ry := by rw [bitAnd_m8]; omega
    rw [er, or_high (by omega) (by omega)]
    refine hQ _ _ _ rx ry F₁₀.keep ⟨hN.1, hN.2.1, ?_, ?_⟩
    · rw [hzd, hsz]; exact hN.2.2.1
    · rw [hzd, hsz]; exact hN.2.2.2
end
end Mine
end

/-! part Lw -/
section
open PySem PySem.W PyProof.Rows PySem.Calls PyProof.V PySem.Spec PySem.Builtin
set_option maxRecDepth 100000
set_option maxHeartbeats 4000000
namespace Mine
theorem call_cellsN_C {prog : Program} {w : World} {A : Around} {R : Result → Shared → Prop} {s : Shared} {name : Str} {params : Arguments} {body : List Stmt} {scope : Scope}
    {pm cd doc : Value} {a : Addr} {o : Obj} {args : List Value} {binds : List (Str × Value)}
    (hroom : A.depth < recursionLimit) (ho : s.heap.get? a = some o) (hdata : o.data = .func (Calls.docDef name params body scope pm cd doc)) (hlim : s.heap.NoLimit) (hcd : s.heap.CodeRec cd name)
    (hbind : bindArgs (Calls.docDef name params body scope pm cd doc) ⟨args, []⟩ = pure binds)
    (hkind : ∀ x ∈ binds, scope.names.lookup x.1 = some .local ∨ (scope.names.lookup x.1 = some .cell ∧ ((cellsFrom (s.heap.objs.size + 1) scope.names []).lookup x.1).isSome = true))
    (hnd : ((cellsFrom 0 scope.names []).map (·.1)).Nodup)
    (h : ∀ h₁ tk cells, Fr s.heap s.heap.objs.size h₁ (bindL (envOfC name scope s.heap.objs.size a cd).kindOf binds fun _ => none) → News s.heap s.heap.objs.size h₁ cells →
      CellsAre (bindC (envOfC name scope s.heap.objs.size a cd).kindOf binds fun _ => none) (cellsFrom (s.heap.objs.size + 1) scope.names []) cells →
      wpC (model prog w) (A.deeper (envOfC name scope s.heap.objs.size a cd)) (execs body (envOfC name scope s.heap.objs.size a cd))
        (fun f s' => R (.ok (.ret (match f with | .ret v => v | _ => .none))) s') (fun _ _ => False) { s with heap := h₁, toks := tk })
    (hco : scope.isCoroutine = false := by rfl) (hgen : scope.isGenerator = false := by rfl) (hk : scope.kind = .function := by rfl) :
    codeC (model prog w) A (.call (.ref a) ⟨args, []⟩) R s := by
  refine codeC_call_function hroom ho hdata hco hgen rfl hcd ?_
  rw [hbind]
  refine wpAny_pure (wpAny_newFunctionEnv_cells hk hkind fun env he s' x => ?_)
  subst he
  refine ⟨hlim.keeps x.toInCall.keep, codeC_func ?_⟩
  obtain ⟨h₁, tk, rfl, _⟩ := x.done
  have ⟨cells, N, Y⟩ := Cl.news (h₀ := s.heap) (Nat.le_refl _) fun n c hm => ⟨x.cell n c (lookup_of_mem_nodup (cellsFrom_names scope.names 0 (s.heap.objs.size + 1) [] [] rfl ▸ hnd) hm), x.above n c hm⟩
  exact h h₁ tk cells ⟨x.toInCall.ns, x.toInCall.keep, x.toInCall.fresh⟩ N Y
theorem enter_C {prog : Program} {w : World} {A : Around} {s : Shared} {f : Value} {args : List Value} {c : ClaimW} {cl : PySem.Str → Option Addr} {mean : ExcName → Option Value} {as : List WData} {s₁ : Shared}
    (h : codeC (model prog w) A (.call f ⟨args, []⟩) (wants (fun v s' => GoodWG c cl mean as s₁ (.ok (.ret v)) s') (fun _ _ => False)) s) :
    wpC (model prog w) A (PySem.call f args []) (fun v s' => GoodWG c cl mean as s₁ (.ok (.ret v)) s') (fun _ _ => False) s := wpC_call h
end Mine
end

/-! part Lm -/
section
open PySem PySem.W PyProof.Rows PySem.Calls PyProof.V PySem.Spec PySem.Builtin
set_option maxRecDepth 100000
set_option maxHeartbeats 4000000
namespace Mine
noncomputable def bodyOf (a : Addr) : List Stmt := match (hd.heap_39 (aWorld 0).params).lookup a with
  | some ⟨_, _, .func fd, _⟩ => (match fd.body with | .stmts b => b | _ => [])
  | _ => []
noncomputable def scOf (a : Addr) : Scope := match (hd.heap_39 (aWorld 0).params).lookup a with
  | some ⟨_, _, .func fd, _⟩ => fd.scope
  | _ => { kind := .function, names := [], isGenerator := false, isCoroutine := false }
/-- the law's frame -/
noncomputable abbrev E31 (L fa : Addr) (cd : Value) : Env := envOfC (Str.ofString "law") (scOf 31) L fa cd
/-- the law's locals -/
abbrev lm (nv sv pv : Value) (rest : Str → Option Value) : Str → Option Value := fun y =>
  if y = Str.ofString "size" then some sv else if y = Str.ofString "place" then some pv else if y = Str.ofString "numbers" then some nv else rest y
theorem lm_store {x : Str} {v nv sv pv : Value} {rest : Str → Option Value} (h1 : x ≠ Str.ofString "size") (h2 : x ≠ Str.ofString "place") (h3 : x ≠ Str.ofString "numbers") :
    (fun y => if y = x then some v else lm nv sv pv rest y) = lm nv sv pv (fun y => if y = x then some v else rest y) := by
  funext y
  unfold lm
  by_cases e : y = x
  · subst e; simp only [if_neg h1, if_neg h2, if_neg h3]
  · simp only [if_neg e]
/-- a cell's place holds a value -/
abbrev isCell (o : Obj) (v : Option Value) : Prop := o.data = .cell v
/-- what was there before still is, and P -/
def Kept (h₀ : Heap) (s₁ : Shared) (P : Prop) : Prop := (∀ x o, h₀.get? x = some o → s₁.heap.get? x = some o) ∧ P
theorem wpC_callWith_fn {M : Model} {A : Around} {E : Value → Shared → Prop} {s : Shared} {env : Env} {h₀ : Heap} {pos : Pos} {a : Addr} {o : Obj} {fd : FuncData} {e : PySem.Expr} {rest : List PySem.Expr} {Q : Value → Shared → Prop}
    (ho : h₀.get? a = some o) (hd : o.data = .func fd)
    (h : wpAny M A (spliced (backTo pos (starEach (e :: rest) env))) (fun vs s₁ => Kept h₀ s₁ (wpC M A (call (.ref a) vs) Q E s₁)) E s)
    (he : starEach (e :: rest) env = (false, eval e env) :: starEach rest env := by rfl) :
    wpC M A (callWith pos (.ref a) [] (backTo pos (starEach (e :: rest) env)) []) Q E s :=
  wpC_callWith_function (wpAny_mono h (fun _ _ k => ⟨⟨k.1 _ _ ho, hd⟩, k.2⟩) fun _ _ x => x) he
theorem wpAny_callWith_fn {M : Model} {A : Around} {E : Value → Shared → Prop} {s : Shared} {env : Env} {h₀ : Heap} {pos : Pos} {a : Addr} {o : Obj} {fd : FuncData} {e : PySem.Expr} {rest : List PySem.Expr} {Q : Value → Shared → Prop}
    (ho : h₀.get? a = some o) (hd : o.data = .func fd)
    (h : wpAny M A (spliced (backTo pos (starEach (e :: rest) env))) (fun vs s₁ => Kept h₀ s₁ (wpAny M A (call (.ref a) vs) Q E s₁)) E s)
    (he : starEach (e :: rest) env = (false, eval e env) :: starEach rest env := by rfl) :
    wpAny M A (callWith pos (.ref a) [] (backTo pos (starEach (e :: rest) env)) []) Q E s := by
  have h' := wpAny_mono h (fun _ _ k => (⟨⟨k.1 _ _ ho, hd⟩, k.2⟩ : (_ ∧ o.data = .func fd) ∧ _)) fun _ _ x => x
  rw [he] at h' ⊢
  exact callWith_function (evalArgs_plain h')
theorem calm_eq {A : Around} (h : A.handled = none) : (calm A) = A := by cases A; cases h; rfl
theorem fl_wp {w : World} {A : Around} {s : Shared} {mg mb : Str → Option Value} {v : Value} {b : Array UInt8} {off : Int} {u : Tok} {Q : Value → Shared → Prop} (hA : A.handled = none) (X : (hd.heap_39 w.params).In s.heap) (T : TopRead hd.view_39 [] mg mb s.heap)
    (hsrc : Ba.Src v b s.heap) (hz : b.size ≤ 64) (h0 : 0 ≤ off) (h1 : off + 1 < b.size) (hroom : A.depth < recursionLimit)
    (hQ : ∀ h' tk t x y, (∀ a o, s.heap.get? a = some o → h'.get? a = some o) → Ba.FlRes (Ba.zeroed b off) off x y → Q (.int (256 * x + y) t) { s with heap := h', toks := tk }) :
    wpC (M w) A (call (.ref 26) [v, .int off u] []) Q (fun _ _ => False) s := by
  have e := calm_eq hA
  have h := fl_call (A := A) (u := u) X T hsrc hz h0 h1 (by rw [e]; exact hroom) hQ
  rw [e] at h
  exact wpC_call h
theorem ck_wp {w : World} {A : Around} {s : Shared} {mg mb : Str → Option Value} {v : Value} {b : Array UInt8} {n : Nat} {Q E : Value → Shared → Prop} (hA : A.handled = none) (X : (hd.heap_39 w.params).In s.heap) (T : TopRead hd.view_39 [] mg mb s.heap)
    (hsrc : Ba.Src v b s.heap) (hz : b.size ≤ 64) (hn : b.size = 2 * n) (hroom : A.depth < recursionLimit)
    (hQ : ∀ h' tk t, (∀ a o, s.heap.get? a = some o → h'.get? a = some o) → Q (.int (ckv (leSum b n)) t) { s with heap := h', toks := tk }) :
    wpAny (M w) A (call (.ref 19) [v] []) Q E s := by
  have e := calm_eq hA
  have h := ck_call (A := A) (E := E) X T (hsrc.bytesOf (by omega)) hz hn (by rw [e]; exact hroom) hQ
  rw [e] at h
  exact wpAny_call h
theorem room31 (env : Env) : (callerA.deeper env).depth < recursionLimit := (by decide : callerA.depth + 1 < recursionLimit)
theorem apart4 {L NL PA : Addr} {ot ow op o : Obj} (l : NL < PA ∧ L + 1 + 1 + 1 < PA ∧ L + 1 + 1 < PA ∧ L + 1 < PA) : ∀ p ∈ [(L + 1 + 1 + 1, ot), (L + 1 + 1, ow), (L + 1, op), (NL, o)], p.1 ≠ PA := by
  intro p hp
  simp only [List.mem_cons, List.not_mem_nil, or_false] at hp
  rcases hp with rfl | rfl | rfl | rfl
  · exact Nat.ne_of_lt l.2.1
  · exact Nat.ne_of_lt l.2.2.1
  · exact Nat.ne_of_lt l.2.2.2
  · exact Nat.ne_of_lt l.1
theorem ckv_bound (S : Int) : 0 ≤ ckv S ∧ ckv S < 65536 := by
  unfold ckv
  dsimp only
  generalize (-(S % 65536 + S / 65536 + (S % 65536 + S / 65536) / 65536) - 1) = u
  omega
theorem News.lts {h₀ h : Heap} {L : Addr} {news : List (Addr × Obj)} (N : News h₀ L h news) : ∀ p ∈ news, p.1 < h.objs.size := fun p hp => Heap.lt_size (N p hp).1
theorem News.lt4 {h₀ h : Heap} {L : Addr} {p x y z u : Addr × Obj} (N : News h₀ L h [p, x, y, z, u]) : u.1 < h.objs.size ∧ x.1 < h.objs.size ∧ y.1 < h.objs.size ∧ z.1 < h.objs.size :=
  ⟨News.lts N _ (.tail _ (.tail _ (.tail _ (.tail _ (.head _))))), News.lts N _ (.tail _ (.head _)), News.lts N _ (.tail _ (.tail _ (.head _))), News.lts N _ (.tail _ (.tail _ (.tail _ (.head _))))⟩
theorem News.isL {h₀ h : Heap} {L a : Addr} {o : Obj} {vs : List Value} {news : List (Addr × Obj)} (N : News h₀ L h news) (hm : (a, o) ∈ news) (ho : o.cls = .type "list" := by rfl) (hd : ∃ c, o.data = .seq vs.toArray c := by exact ⟨_, rfl⟩) : h.IsList a vs.toArray :=
  ⟨o, N.get hm, ho, hd⟩
theorem News.sub4 {h₀ h : Heap} {L : Addr} {x y : Addr × Obj} {news : List (Addr × Obj)} (N : News h₀ L h (x :: y :: news)) : News h₀ L h news := fun p hp => N p (.tail _ (.tail _ hp))
theorem News.sub3 {h₀ h : Heap} {L : Addr} {x : Addr × Obj} {news : List (Addr × Obj)} (N : News h₀ L h (x :: news)) : News h₀ L h news := fun p hp => N p (.tail _ hp)
/-- two octets put side by side -/
def Ba.put2 (b : Array UInt8) (pl x y : Int) : Array UInt8 := (b.setIfInBounds pl.toNat x.toNat.toUInt8).setIfInBounds (pl + 1).toNat y.toNat.toUInt8
theorem Ba.put2_size (b : Array UInt8) (pl x y : Int) : (Ba.put2 b pl x y).size = b.size := by unfold Ba.put2; simp
end Mine
end

/-! part W4 -/
section
open PySem PySem.W PyProof.Rows PySem.Calls PyProof.V PySem.Spec PySem.Builtin
set_option maxRecDepth 100000
set_option maxHeartbeats 4000000
namespace Mine
theorem fill4 : PySem.Challenge.rw_bi0009_01 = PySem.Challenge.rw_bi0009_01 ∧ hd.heap_39 = hd.heap_39 := by k_fill; exact ⟨rfl, rfl⟩
local macro_rules | `(tactic| boot_fact) => `(tactic| with_reducible exact boot_bytearray)
def eltF (k' : Int) : Int := if k'.fmod 4 = 0 then 0 else if k'.fmod 4 = 1 then 255 else if k'.fmod 4 = 2 then (k'.fdiv 4).fmod 256 else if k'.fmod 4 = 3 then (k'.fdiv 4).fmod 256 else k'
theorem elt_range {l : List Int} : ∀ n ∈ l.map eltF, 0 ≤ n ∧ n < 256 := by
  intro n hn
  obtain ⟨k, _, rfl⟩ := List.mem_map.mp hn
  have h4 : 0 ≤ k.fmod 4 ∧ k.fmod 4 < 4 := by rw [Int.fmod_eq_emod_of_nonneg _ (by decide)]; omega
  have h256 : 0 ≤ (k.fdiv 4).fmod 256 ∧ (k.fdiv 4).fmod 256 < 256 := by rw [Int.fmod_eq_emod_of_nonneg _ (by decide)]; omega
  unfold eltF
  split
  · omega
  · split
    · omega
    · split
      · omega
      · split <;> omega
section
variable {w : World} {h₀ : Heap} {L fa NL : Addr} {cd : Value} {s : Shared} {mg mb : Str → Option Value} {nn : List Int} {vs : List Value} {sz pl : Int} {ts tp : Tok} {rest : Str → Option Value} {ot ow op : Obj} {tv wv pv : Option Value}
  {R : Flow → Shared → Prop}
theorem ph4 (X : (hd.heap_39 w.params).In h₀) (T : TopRead hd.view_39 [] mg mb h₀) (hL : L = h₀.objs.size)
    (F : Fr h₀ L s.heap (lm (.ref NL) (.int sz ts) (.int pl tp) rest)) (N : News h₀ L s.heap [(L + 1 + 1 + 1, ot), (L + 1 + 1, ow), (L + 1, op), (NL, W.listOf vs.toArray 0)])
    (hot : ot.data = .cell none) (how : ow.data = .cell none) (hop : op.data = .cell none) (hv : IntsAre vs nn) (hnn : nn.length = 36) (hsz : 4 ≤ sz ∧ sz ≤ 23)
    (next : ∀ (h' : Heap) (tk : Nat) (op' : Obj) (PA : Addr) (b : Array UInt8) (rest' : Str → Option Value), b.size = sz.toNat → Fr h₀ L h' (lm (.ref NL) (.int sz ts) (.int pl tp) rest') →
      News h₀ L h' [(PA, Ba.obj b), (L + 1 + 1 + 1, ot), (L + 1 + 1, ow), (L + 1, op'), (NL, W.listOf vs.toArray 0)] → ot.data = .cell none → ow.data = .cell none → op'.data = .cell (some (.ref PA)) →
      (NL < PA ∧ L + 1 + 1 + 1 < PA ∧ L + 1 + 1 < PA ∧ L + 1 < PA) → wpC (M w) (callerA.deeper (E31 L fa cd)) (execs ((bodyOf 31).drop 5) (E31 L fa cd)) R (fun _ _ => False) { s with heap := h', toks := tk }) :
    wpC (M w) (callerA.deeper (E31 L fa cd)) (execs ((bodyOf 31).drop 4) (E31 L fa cd)) R (fun _ _ => False) s := by
  conv in List.drop 4 _ => whnf
  w_on
  refine wpC_execs_cons (wpC_Assign_Name (wpC_Call ?_)); k_fold; k_steps
  refine wpC_callWith_type ?_; k_steps
  rename_i g2 ys hI8 hL8 D2 h2 tk2 F2 N2 o12
  refine Ba.new_list (News.isL N2 (.head _)) hI8 elt_range (by rw [List.length_map, List.length_take, List.length_drop]; omega) ?_
  intro h3 hD hk
  have hbs : (byteArr (List.map eltF (List.take (Min.min (12 + sz).toNat nn.length - 12) (List.drop 12 nn)))).size = sz.toNat := by
    rw [byteArr_size, List.length_map, List.length_take, List.length_drop]; omega
  have hD' : h3.get? h2.objs.size = some (Ba.obj (byteArr (List.map eltF (List.take (Min.min (12 + sz).toNat nn.length - 12) (List.drop 12 nn))))) := hD
  generalize byteArr (List.map eltF (List.take (Min.min (12 + sz).toNat nn.length - 12) (List.drop 12 nn))) = b at hD' hbs
  have F3 := F2.keptAll hk
  have N4 : News h₀ L h2 [(L + 1 + 1 + 1, ot), (L + 1 + 1, ow), (L + 1, op), (NL, W.listOf vs.toArray 0)] := News.sub4 N2
  have N3 := News.addNew F2 N4 hk hD'
  have l3 : NL < h2.objs.size ∧ L + 1 + 1 + 1 < h2.objs.size ∧ L + 1 + 1 < h2.objs.size ∧ L + 1 < h2.objs.size :=
    ⟨News.lts N4 _ (.tail _ (.tail _ (.tail _ (.head _)))), News.lts N4 _ (.head _), News.lts N4 _ (.tail _ (.head _)), News.lts N4 _ (.tail _ (.tail _ (.head _)))⟩
  dsimp only at F3 N3 ⊢
  generalize h2.objs.size = PA at hD N3 l3 ⊢
  clear F2 N2 N4 hk hI8 hL8 hD hD'
  k_steps
  exact next _ _ _ _ _ _ hbs (by assumption) (by assumption) hot how (by assumption) l3
end
end Mine
end

/-! part W5 -/
section
open PySem PySem.W PyProof.Rows PySem.Calls PyProof.V PySem.Spec PySem.Builtin
set_option maxRecDepth 100000
set_option maxHeartbeats 4000000
namespace Mine
theorem fill_w5 : PySem.Challenge.rw_bi0009_01 = PySem.Challenge.rw_bi0009_01 ∧ hd.heap_39 = hd.heap_39 := by k_fill; exact ⟨rfl, rfl⟩
local macro_rules | `(tactic| walk_at "callWith ref") => `(tactic| refine Hold.intro ?_)
section
variable {w : World} {h₀ : Heap} {L fa NL PA : Addr} {cd : Value} {s : Shared} {mg mb : Str → Option Value} {nn : List Int} {vs : List Value} {sz pl : Int} {ts tp : Tok} {rest : Str → Option Value} {ot ow op : Obj} {b : Array UInt8}
  {R : Flow → Shared → Prop}
theorem ph5 (X : (hd.heap_39 w.params).In h₀) (T : TopRead hd.view_39 [] mg mb h₀)
    (F : Fr h₀ L s.heap (lm (.ref NL) (.int sz ts) (.int pl tp) rest)) (N : News h₀ L s.heap [(PA, Ba.obj b), (L + 1 + 1 + 1, ot), (L + 1 + 1, ow), (L + 1, op), (NL, W.listOf vs.toArray 0)])
    (hot : ot.data = .cell none) (how : ow.data = .cell none) (hop : op.data = .cell (some (.ref PA))) (l : NL < PA ∧ L + 1 + 1 + 1 < PA ∧ L + 1 + 1 < PA ∧ L + 1 < PA) (hb : b.size = sz.toNat) (hsz : 4 ≤ sz ∧ sz ≤ 23) (hpl : 0 ≤ pl ∧ pl + 1 < sz)
    (next : ∀ (h' : Heap) (tk : Nat) (rest' : Str → Option Value) (x y : Int), Ba.FlRes (Ba.zeroed b pl) pl x y → Fr h₀ L h' (lm (.ref NL) (.int sz ts) (.int pl tp) rest') →
      News h₀ L h' [(PA, Ba.obj (Ba.put2 b pl x y)), (L + 1 + 1 + 1, ot), (L + 1 + 1, ow), (L + 1, op), (NL, W.listOf vs.toArray 0)] → 
      wpC (M w) (callerA.deeper (E31 L fa cd)) (execs ((bodyOf 31).drop 7) (E31 L fa cd)) R (fun _ _ => False) { s with heap := h', toks := tk }) :
    wpC (M w) (callerA.deeper (E31 L fa cd)) (execs ((bodyOf 31).drop 5) (E31 L fa cd)) R (fun _ _ => False) s := by
  conv in List.drop 5 _ => whnf
  w_on
  refine wpC_execs_cons (wpC_Assign_Name (wpC_Call ?_)); k_fold; k_steps
  refine wpC_callWith_fn (X 26 _ (by k_is)) (by exact rfl) ?_; k_steps
  refine ⟨F.keep, fl_wp rfl (Frag.In.keeps X F.keep) (TopRead.keeps T F.keep) (.inl ⟨_, rfl, N.get (.head _)⟩) (by omega) hpl.1 (by omega) (room31 _) ?_⟩
  intro h1 tk1 t1 x y hk1 hxy
  have F1 := F.keptAll hk1
  have N1 := N.grown hk1
  have hx := hxy.1
  have hy := hxy.2.1
  clear F N
  try dsimp only
  k_steps
  refine wpC_execs_cons (wpC_of ?_)
  k_steps
  rename_i F2 N2
  have e1 : (256 * x + y).fdiv 256 = x := by rw [Int.fdiv_eq_ediv_of_nonneg _ (by decide)]; omega
  have e2 : (256 * x + y).fmod 256 = y := by rw [Int.fmod_eq_emod_of_nonneg _ (by decide)]; omega
  refine Ba.set_head F2 (News.sub3 N2) (apart4 l) hpl.1 (by omega) (by omega) (by omega) (by omega) ?_
  intro h3 F3 N3
  clear F2 N2
  k_steps
  refine Ba.set_head F3 N3 (apart4 l) (by omega) (by rw [Array.size_setIfInBounds]; omega) (by rw [Array.size_setIfInBounds]; omega) (by omega) (by omega) ?_
  intro h4 F4 N4
  clear F3 N3
  k_steps
  rw [lm_store (by decide) (by decide) (by decide)] at F4
  rw [e1, e2] at N4
  exact next _ _ _ x y hxy F4 N4
end
end Mine
end

/-! part W7 -/
section
open PySem PySem.W PyProof.Rows PySem.Calls PyProof.V PySem.Spec PySem.Builtin
set_option maxRecDepth 100000
set_option maxHeartbeats 4000000
namespace Mine
theorem fill_w7 : PySem.Challenge.rw_bi0009_01 = PySem.Challenge.rw_bi0009_01 ∧ hd.heap_39 = hd.heap_39 := by k_fill; exact ⟨rfl, rfl⟩
local macro_rules | `(tactic| walk_at "callWith ref") => `(tactic| refine Hold.intro ?_)
local macro_rules | `(tactic| walk_at "call ref") => `(tactic| refine Hold.intro ?_)
local macro_rules | `(tactic| walk_at "binaryOp Add ref bytes") => `(tactic| refine Hold.intro ?_)
local macro_rules | `(tactic| walk_at "call type:bytes") => `(tactic| refine Hold.intro ?_)
local macro_rules | `(tactic| walk_at "call type:list") => `(tactic| refine Hold.intro ?_)
local macro_rules | `(tactic| walk_at "call builtin:int.to_bytes") => `(tactic| refine Hold.intro ?_)
section
variable {w : World} {h₀ : Heap} {L fa NL PA : Addr} {cd : Value} {s : Shared} {mg mb : Str → Option Value} {nn : List Int} {vs : List Value} {sz pl : Int} {ts tp : Tok} {rest : Str → Option Value} {ot ow op : Obj} {b : Array UInt8}
  {R : Flow → Shared → Prop}
theorem Ba.ints_of_items {p : Array UInt8} {acc : Array Value} (h : ItemsOf (Ba.ByteAt p) acc p.size) : IntsAre acc.toList (KBw.bInts p) ∧ acc.toList.toArray = acc := by
  refine ⟨?_, rfl⟩
  have hz : acc.toList.length = p.size := h.1
  have key : ∀ (l : List Value) (ns : List Int), l.length = ns.length → (∀ (i : Nat) (v : Value), l[i]? = some v → ∃ k t, ns[i]? = some k ∧ v = Value.int k t) → IntsAre l ns := by
    intro l
    induction l with
    | nil => intro ns hl _; cases ns with | nil => exact .nil | cons => cases hl
    | cons v l ih =>
      intro ns hl hx
      cases ns with
      | nil => cases hl
      | cons k ns =>
        obtain ⟨k', t, e, rfl⟩ := hx 0 v rfl
        obtain rfl : k = k' := Option.some.inj e
        exact .cons k t (ih ns (Nat.succ.inj hl) fun i v' hv => hx (i + 1) v' hv)
  refine key _ _ (by rw [hz, KBw.ints_length]) fun i v hv => ?_
  obtain ⟨c, u, hc, rfl⟩ := h.2 i v (by rw [← Array.getElem?_toList]; exact hv)
  exact ⟨_, u, KBw.ints_get hc, rfl⟩
theorem ph7 (X : (hd.heap_39 w.params).In h₀) (T : TopRead hd.view_39 [] mg mb h₀)
    (F : Fr h₀ L s.heap (lm (.ref NL) (.int sz ts) (.int pl tp) rest)) (N : News h₀ L s.heap [(PA, Ba.obj b), (L + 1 + 1 + 1, ot), (L + 1 + 1, ow), (L + 1, op), (NL, W.listOf vs.toArray 0)])
    (hot : ot.data = .cell none) (how : ow.data = .cell none) (hop : op.data = .cell (some (.ref PA))) (l : NL < PA ∧ L + 1 + 1 + 1 < PA ∧ L + 1 + 1 < PA ∧ L + 1 < PA) (hb : b.size = sz.toNat) (hsz : 4 ≤ sz ∧ sz ≤ 23) (hpl : 0 ≤ pl ∧ pl + 1 < sz)
    (next : ∀ (h' : Heap) (tk : Nat) (op' ow' : Obj) (p d : Array UInt8) (n : Nat) (ws : List Value) (WL PC : Addr) (c : Nat), ((sz + sz % 2) / 2).toNat = n → p.size = 2 * (n + 1) →
      KBw.bInts d = (KTBy.little 2 (ckv (leSum (b ++ Array.replicate (sz % 2).toNat 0) n))).reverse → b ++ Array.replicate (sz % 2).toNat 0 ++ d = p → IntsAre ws (KBw.bInts p) → Fr h₀ L h' (lm (.ref NL) (.int sz ts) (.int pl tp) rest) →
      News h₀ L h' [(WL, W.listOf ws.toArray c), (PC, Ba.obj p), (L + 1 + 1 + 1, ot), (L + 1 + 1, ow'), (L + 1, op'), (NL, W.listOf vs.toArray 0)] → ot.data = .cell none → ow'.data = .cell (some (.ref WL)) → op'.data = .cell (some (.ref PC)) →
      (NL < PC ∧ L + 1 + 1 + 1 < PC ∧ L + 1 + 1 < PC ∧ L + 1 < PC) → (PC < WL ∧ NL < WL ∧ L + 1 + 1 + 1 < WL ∧ L + 1 + 1 < WL ∧ L + 1 < WL) →
      wpC (M w) (callerA.deeper (E31 L fa cd)) (execs ((bodyOf 31).drop 10) (E31 L fa cd)) R (fun _ _ => False) { s with heap := h', toks := tk }) :
    wpC (M w) (callerA.deeper (E31 L fa cd)) (execs ((bodyOf 31).drop 7) (E31 L fa cd)) R (fun _ _ => False) s := by
  conv in List.drop 7 _ => whnf
  w_on
  refine wpC_execs_cons (wpC_of ?_); k_fold; k_steps
  refine Hold.elim ?_
  have hm2 : 0 ≤ sz.fmod 2 ∧ sz.fmod 2 ≤ 1 ∧ (sz + sz.fmod 2) % 2 = 0 := by rw [Int.fmod_eq_emod_of_nonneg _ (by decide)]; omega
  have em2 : sz.fmod 2 = sz % 2 := Int.fmod_eq_emod_of_nonneg _ (by decide)
  refine Ba.bytes_of_int (by omega) (by omega) ?_
  intro t k
  refine Ba.add (N.get (.head _)) (by rw [Array.size_replicate]; omega) ?_
  have F1 := F.push (Ba.obj (b ++ Array.replicate (sz.fmod 2).toNat 0))
  have N1 := News.addNew F (News.sub3 N) (fun x o e => Heap.get?_push_of_some _ e) (Heap.get?_push_size s.heap (o := Ba.obj (b ++ Array.replicate (sz.fmod 2).toNat 0)) rfl)
  have l1 : NL < s.heap.objs.size ∧ L + 1 + 1 + 1 < s.heap.objs.size ∧ L + 1 + 1 < s.heap.objs.size ∧ L + 1 < s.heap.objs.size := News.lt4 N
  have hb1 : (b ++ Array.replicate (sz.fmod 2).toNat 0).size = 2 * ((sz + sz % 2) / 2).toNat := by rw [Array.size_append, Array.size_replicate, em2]; omega
  rw [em2] at F1 N1
  rw [em2] at hb1 ⊢
  generalize hb1e : b ++ Array.replicate (sz % 2).toNat 0 = b1 at F1 N1 hb1 ⊢
  dsimp only
  generalize s.heap.push (Ba.obj b1) = h1 at F1 N1 ⊢
  generalize s.heap.objs.size = PB at N1 l1 ⊢
  have hn1 : ((sz + sz % 2) / 2).toNat ≤ 12 := by omega
  generalize hnE : ((sz + sz % 2) / 2).toNat = n at hb1 hn1
  clear F N
  k_steps
  rename_i h2 o2 F2 N2 ho2
  refine wpC_execs_cons (wpC_of ?_); k_fold; k_steps
  refine Hold.elim ?_
  refine wpAny_callWith_fn (X 19 _ (by k_is)) (by exact rfl) ?_; k_steps
  refine ⟨F2.keep, ck_wp rfl (Frag.In.keeps X F2.keep) (TopRead.keeps T F2.keep) (.inl ⟨_, rfl, N2.get (.head _)⟩) (by omega) hb1 (room31 _) ?_⟩
  intro h3 tk3 t3 hk3
  have F3 := F2.keptAll hk3
  have N3 : News h₀ L h3 [(PB, Ba.obj b1), (L + 1 + 1 + 1, ot), (L + 1 + 1, ow), (L + 1, o2), (NL, W.listOf vs.toArray 0)] := News.grown N2 hk3
  have hcb := ckv_bound (leSum b1 n)
  clear F2 N2
  k_steps
  refine Hold.elim ?_
  refine KTBy.to_big (k := 2) (B := 65536) (by decide) (by decide) hcb.1 hcb.2 ?_
  intro d t4 k4 hd hd2
  rw [← hd, KBw.ints_length] at hd2
  k_steps
  refine Hold.elim ?_
  refine Ba.add (N3.get (.head _)) (by omega) ?_
  have F4 := F3.push (Ba.obj (b1 ++ d))
  have N4 := News.addNew F3 (News.sub3 N3) (fun x o e => Heap.get?_push_of_some _ e) (Heap.get?_push_size h3 (o := Ba.obj (b1 ++ d)) rfl)
  have l4 : NL < h3.objs.size ∧ L + 1 + 1 + 1 < h3.objs.size ∧ L + 1 + 1 < h3.objs.size ∧ L + 1 < h3.objs.size := News.lt4 N3
  have hp : (b1 ++ d).size = 2 * (n + 1) := by rw [Array.size_append]; omega
  generalize hpe : b1 ++ d = p at F4 N4 hp ⊢
  dsimp only
  generalize h3.push (Ba.obj p) = h4 at F4 N4 ⊢
  generalize h3.objs.size = PC at N4 l4 ⊢
  clear F3 N3
  k_steps
  rename_i h5 o5 F5 N5 ho5
  refine wpC_execs_cons (wpC_of ?_); k_fold; k_steps
  refine Hold.elim ?_
  refine Ba.list_of_ba rfl (N5.get (.head _)) (by omega) ?_
  intro h6 tk6 acc c6 hk6 hl6 hit
  obtain ⟨hI6, hacc⟩ := Ba.ints_of_items hit
  have F6 := F5.keptAll hk6
  have N6 : News h₀ L h6 [(h5.objs.size, W.listOf acc.toList.toArray c6), (PC, Ba.obj p), (L + 1 + 1 + 1, ot), (L + 1 + 1, ow), (L + 1, o5), (NL, W.listOf vs.toArray 0)] :=
    News.addNew F5 N5 hk6 (by rw [hacc]; exact hl6)
  have l6 : PC < h5.objs.size ∧ NL < h5.objs.size ∧ L + 1 + 1 + 1 < h5.objs.size ∧ L + 1 + 1 < h5.objs.size ∧ L + 1 < h5.objs.size := ⟨News.lts N5 _ (.head _), News.lt4 N5⟩
  dsimp only
  generalize acc.toList = ws at hI6 N6
  generalize h5.objs.size = WL at N6 l6 ⊢
  clear F5 N5 hk6 hit hacc hl6
  k_steps
  rename_i h7 o7 F7 N7 ho7
  subst hb1e
  exact next _ _ _ _ p d n ws WL PC c6 hnE hp hd hpe hI6 F7 N7 hot ho7 ho5 l4 l6
end
end Mine
end

/-! part WIf -/
section
open PySem PySem.W PyProof.Rows PySem.Calls PyProof.V PySem.Spec PySem.Builtin
set_option maxRecDepth 100000
set_option maxHeartbeats 4000000
namespace Mine
theorem fill_wif : PySem.Challenge.rw_bi0009_01 = PySem.Challenge.rw_bi0009_01 ∧ hd.heap_39 = hd.heap_39 := by k_fill; exact ⟨rfl, rfl⟩
/-- the damage's text -/
noncomputable def hurtOf : List Stmt := match (bodyOf 31).drop 10 with
  | .For _ _ body _ _ :: _ => body
  | _ => []
noncomputable def hurtIf : Stmt := match hurtOf.drop 3 with
  | st :: _ => st
  | _ => .Pass default
/-- the law's locals within the damage -/
abbrev dm (kd hr th nb on nv sv pv : Value) (rest : Str → Option Value) : Str → Option Value := fun y =>
  if y = Str.ofString "kind" then some kd else if y = Str.ofString "here" then some hr else if y = Str.ofString "there" then some th else if y = Str.ofString "number" then some nb else if y = Str.ofString "one" then some on else lm nv sv pv rest y
namespace Ba
theorem item_v {w : World} {h₀ : Heap} {L : Addr} {s : Shared} {prog : Program} {A : Around} {E : Value → Shared → Prop} {value slice : PySem.Expr} {k : Int} {u : Tok} {Q : Value → Shared → Prop} {a : Addr} {q : Array UInt8} {m : Str → Option Value} {tl : List (Addr × Obj)} (_F : Fr h₀ L s.heap m) (N : News h₀ L s.heap ((a, obj q) :: tl)) (h0 : 0 ≤ k) (h1 : k < q.size) (hf : q.size ≤ 16777216)
    (h : ∀ v t, v = at_ q k.toNat → 0 ≤ v → v ≤ 255 → Q (.int v t) { s with toks := s.toks + 1 })
    (hs : subscripted slice false (.ref a) (.int k u) = operate [.int k u, .ref a] (PySem.getItem (.ref a) (.int k u)) := by with_unfolding_all rfl)
    (ht : ∀ r, letTemporaryGo value (.ref a) r = pure () := by intro _; with_unfolding_all rfl) :
    wpAny (model prog w) A (subscriptTail value slice (.ref a) (.int k u)) Q E s :=
  item_ba (N.get (.head _)) h0 h1 hf (fun t => h _ t (at_eq q _) (by rw [at_eq]; exact (at_bound q _).1) (by rw [at_eq]; exact (at_bound q _).2)) hs ht
end Ba
theorem fm0 {x c : Int} (hc : 0 < c) : 0 ≤ x.fmod c := by rw [Int.fmod_eq_emod_of_nonneg _ (Int.le_of_lt hc)]; exact Int.emod_nonneg _ (by omega)
theorem fm1 {x c d : Int} (hc : 0 < c) (h : c ≤ d) : x.fmod c < d := by rw [Int.fmod_eq_emod_of_nonneg _ (Int.le_of_lt hc)]; exact Int.lt_of_lt_of_le (Int.emod_lt_of_pos _ hc) h
theorem fd2 (x : Int) : x.fdiv 2 = x / 2 := Int.fdiv_eq_ediv_of_nonneg _ (by decide)
theorem min3_v {prog : Program} {w : World} {A : Around} {E : Value → Shared → Prop} {s : Shared} {h₀ : Heap} {L : Addr} {m : Str → Option Value} {news : List (Addr × Obj)} {a b c : Int} {t u x : Tok} {Q : Value → Shared → Prop} (hh : A.handled = none) (F : Fr h₀ L s.heap m) (N : News h₀ L s.heap news) (ha : 0 ≤ a) (hb : 0 ≤ b) (hc : 0 ≤ c)
    (h : ∀ h' tk g t', 0 ≤ g → g ≤ b → g ≤ c → Fr h₀ L h' m → News h₀ L h' news → Q (.int g t') { s with heap := h', toks := tk }) :
    wpAny (model prog w) A (call (.builtin "min") [.int a t, .int b u, .int c x]) Q E s := by
  refine min_three_ints hh fun h' tk hk => ?_
  have F' := F.keptAll hk
  have N' := N.grown hk
  split
  · split
    · exact h _ _ _ _ hc (by omega) (by omega) F' N'
    · exact h _ _ _ _ hb (by omega) (by omega) F' N'
  · split
    · exact h _ _ _ _ hc (by omega) (by omega) F' N'
    · exact h _ _ _ _ ha (by omega) (by omega) F' N'
theorem Ba.get_v {prog : Program} {w : World} {A : Around} {E : Value → Shared → Prop} {s : Shared} {h₀ : Heap} {L : Addr} {k : Int} {u : Tok} {Q : Value → Shared → Prop} {a : Addr} {q : Array UInt8} {m : Str → Option Value} {tl : List (Addr × Obj)} (_F : Fr h₀ L s.heap m) (N : News h₀ L s.heap ((a, obj q) :: tl)) (h0 : 0 ≤ k) (h1 : k < q.size) (hf : q.size ≤ 16777216)
    (h : ∀ v t, v = at_ q k.toNat → 0 ≤ v → v ≤ 255 → Q (.int v t) { s with toks := s.toks + 1 }) :
    wpAny (model prog w) A (PySem.getItem (.ref a) (.int k u)) Q E s :=
  getItem (N.get (.head _)) h0 h1 (by omega) (fun t => h _ t (at_eq q _) (by rw [at_eq]; exact (at_bound q _).1) (by rw [at_eq]; exact (at_bound q _).2))
local macro_rules | `(tactic| walk_at "pyIter ref") => `(tactic| refine Hold.intro ?_)
theorem Ba.at_set_ne {q : Array UInt8} {i j : Nat} {x : UInt8} (h : i ≠ j) : Ba.at_ (q.setIfInBounds i x) j = Ba.at_ q j := by
  unfold Ba.at_
  rw [Array.getD_eq_getD_getElem?, Array.getD_eq_getD_getElem?, Array.getElem?_setIfInBounds_ne h]
theorem dm_lm {kd hr th nb on nv sv pv : Value} {rest : Str → Option Value} : dm kd hr th nb on nv sv pv rest =
    lm nv sv pv (fun y => if y = Str.ofString "kind" then some kd else if y = Str.ofString "here" then some hr else if y = Str.ofString "there" then some th else if y = Str.ofString "number" then some nb else if y = Str.ofString "one" then some on else rest y) := by
  rw [← lm_store (by decide) (by decide) (by decide)]
  rw [← lm_store (by decide) (by decide) (by decide)]
  rw [← lm_store (by decide) (by decide) (by decide)]
  rw [← lm_store (by decide) (by decide) (by decide)]
  rw [← lm_store (by decide) (by decide) (by decide)]
theorem Fr.toLm {h₀ h : Heap} {L : Addr} {kd hr th nb on nv sv pv : Value} {rest : Str → Option Value} (F : Fr h₀ L h (dm kd hr th nb on nv sv pv rest)) :
    Fr h₀ L h (lm nv sv pv (fun y => if y = Str.ofString "kind" then some kd else if y = Str.ofString "here" then some hr else if y = Str.ofString "there" then some th else if y = Str.ofString "number" then some nb else if y = Str.ofString "one" then some on else rest y)) := by
  rw [← dm_lm]; exact F
abbrev three (x : Str) : Prop := x ≠ Str.ofString "size" ∧ x ≠ Str.ofString "place" ∧ x ≠ Str.ofString "numbers"
theorem Fr.toLm1 {h₀ h : Heap} {L : Addr} {a : Str} {va : Value} {kd hr th nb on nv sv pv : Value} {rest : Str → Option Value} (ha : three a) (F : Fr h₀ L h (fun y => if y = a then some va else dm kd hr th nb on nv sv pv rest y)) :
    ∃ rest', Fr h₀ L h (lm nv sv pv rest') := by
  rw [dm_lm, lm_store ha.1 ha.2.1 ha.2.2] at F
  exact ⟨_, F⟩
theorem Fr.toLm2 {h₀ h : Heap} {L : Addr} {a b : Str} {va vb : Value} {kd hr th nb on nv sv pv : Value} {rest : Str → Option Value} (ha : three a) (hb : three b) (F : Fr h₀ L h (fun y => if y = a then some va else if y = b then some vb else dm kd hr th nb on nv sv pv rest y)) :
    ∃ rest', Fr h₀ L h (lm nv sv pv rest') := by
  rw [dm_lm] at F
  have F' : Fr h₀ L h (fun y => if y = a then some va else (fun y => if y = b then some vb else lm nv sv pv _ y) y) := F
  rw [lm_store hb.1 hb.2.1 hb.2.2, lm_store ha.1 ha.2.1 ha.2.2] at F'
  exact ⟨_, F'⟩
abbrev five (x : Str) : Prop := x ≠ Str.ofString "kind" ∧ x ≠ Str.ofString "here" ∧ x ≠ Str.ofString "there" ∧ x ≠ Str.ofString "number" ∧ x ≠ Str.ofString "one"
theorem dm_store {x : Str} {v kd hr th nb on nv sv pv : Value} {rest : Str → Option Value} (h5 : five x) (h3 : three x) :
    (fun y => if y = x then some v else dm kd hr th nb on nv sv pv rest y) = dm kd hr th nb on nv sv pv (fun y => if y = x then some v else rest y) := by
  obtain ⟨a1, a2, a3, a4, a5⟩ := h5
  obtain ⟨b1, b2, b3⟩ := h3
  funext y
  unfold dm lm
  by_cases e : y = x
  · subst e; simp only [if_neg a1, if_neg a2, if_neg a3, if_neg a4, if_neg a5, if_neg b1, if_neg b2, if_neg b3]
  · simp only [if_neg e]
theorem dm_store2 {a b : Str} {va vb kd hr th nb on nv sv pv : Value} {rest : Str → Option Value} (ha : five a) (ha' : three a) (hb : five b) (hb' : three b) :
    (fun y => if y = a then some va else if y = b then some vb else dm kd hr th nb on nv sv pv rest y) = dm kd hr th nb on nv sv pv (fun y => if y = a then some va else if y = b then some vb else rest y) := by
  have e : (fun y => if y = a then some va else if y = b then some vb else dm kd hr th nb on nv sv pv rest y) = (fun y => if y = a then some va else (fun y => if y = b then some vb else dm kd hr th nb on nv sv pv rest y) y) := rfl
  rw [e, dm_store hb hb', dm_store ha ha']
local macro_rules | `(tactic| walk_at "call builtin:min") => `(tactic| refine Hold.intro ?_)
local macro_rules | `(tactic| walk_at "exec For") => `(tactic| refine Hold.intro ?_)
local macro_rules | `(tactic| walk_at "exec For Name Call cons nil") => `(tactic| refine Hold.intro ?_)
local macro_rules | `(tactic| walk_at "getItem ref int") => `(tactic| (k_here; (with_reducible show wpAny _ _ (PySem.getItem (Value.ref _) (Value.int _ _)) _ _ _); (refine' Ba.get_v ?F ?N ?h0 ?h1 ?hf ?_; (case F => k_asm); (case N => exact (by assumption)); (case h0 => omega); (case h1 => (try simp only [Array.size_setIfInBounds]); omega); (case hf => (try simp only [Array.size_setIfInBounds]); omega)); intro _ _ _ _ _; walk_say "GET"))
local macro_rules | `(tactic| walk_at "subscriptTail") => `(tactic| (k_here; (with_reducible show wpAny _ _ (subscriptTail _ _ (Value.ref _) (Value.int _ _)) _ _ _); (refine' Ba.item_v ?F ?N ?h0 ?h1 ?hf ?_ ?s ?t; (case F => k_asm); (case N => (first | exact (by assumption) | exact News.sub3 (by assumption) | exact News.sub3 (News.sub3 (by assumption)))); (case h0 => (try simp only [fd2]); first | omega | exact fm0 (by omega)); (case h1 => (try simp only [Array.size_setIfInBounds, fd2]); first | omega | exact fm1 (by omega) (by omega)); (case hf => (try simp only [Array.size_setIfInBounds]); omega); (case s => with_unfolding_all rfl); (case t => intro _; with_unfolding_all rfl)); intro _ _ _ _ _; walk_say "ITEM"))
theorem Ba.set_pre {prog : Program} {w : World} {A : Around} {E : Value → Shared → Prop} {s : Shared} {h₀ : Heap} {D L : Addr} {z : Array UInt8} {k v : Int} {u t : Tok} {m : Str → Option Value} (pre : List (Addr × Obj)) {news : List (Addr × Obj)} {Q : Unit → Shared → Prop} (F : Fr h₀ L s.heap m) (N : News h₀ L s.heap (pre ++ (D, Ba.obj z) :: news)) (hap : ∀ p ∈ news, p.1 ≠ D)
    (hpre : ∀ p ∈ pre, p.2.cls ≠ .type "bytearray") (h0 : 0 ≤ k) (h1 : k < z.size) (hz : z.size ≤ 16777216) (hv0 : 0 ≤ v) (hv1 : v < 256)
    (h : ∀ h', Fr h₀ L h' m → News h₀ L h' (pre ++ (D, Ba.obj (z.setIfInBounds k.toNat v.toNat.toUInt8)) :: news) → Q () { s with heap := h' }) :
    wpAny (model prog w) A (PySem.setItem (.ref D) (.int k u) (.int v t)) Q E s := by
  have hD := N (D, Ba.obj z) (List.mem_append_right _ (.head _))
  refine Ba.setItem hD.1 h0 h1 hz hv0 hv1 fun h' hs hb => ?_
  refine h h' (F.change hb hD.2.1 hD.2.2) (News.setAt N (fun p hp e => hpre p hp ?_) hap hb hs)
  have := (N p (List.mem_append_left _ hp)).1
  rw [e, hD.1] at this
  rw [← Option.some.inj this]; rfl
theorem not_ba {x : String} (h : x ≠ "bytearray") : Value.type x ≠ Value.type "bytearray" := fun e => h (by injection e)
theorem Ba.set_2 {prog : Program} {w : World} {A : Around} {E : Value → Shared → Prop} {s : Shared} {h₀ : Heap} {D L : Addr} {z : Array UInt8} {k v : Int} {u t : Tok} {m : Str → Option Value} {x : Addr × Obj} {news : List (Addr × Obj)} {Q : Unit → Shared → Prop} (F : Fr h₀ L s.heap m) (N : News h₀ L s.heap (x :: (D, Ba.obj z) :: news)) (hap : ∀ p ∈ news, p.1 ≠ D)
    (hx : x.2.cls ≠ .type "bytearray") (h0 : 0 ≤ k) (h1 : k < z.size) (hz : z.size ≤ 16777216) (hv0 : 0 ≤ v) (hv1 : v < 256)
    (h : ∀ h', Fr h₀ L h' m → News h₀ L h' ((D, Ba.obj (z.setIfInBounds k.toNat v.toNat.toUInt8)) :: news) → Q () { s with heap := h' }) :
    wpAny (model prog w) A (PySem.setItem (.ref D) (.int k u) (.int v t)) Q E s :=
  Ba.set_pre [x] F N hap (fun p hp => by obtain rfl := List.mem_singleton.mp hp; exact hx) h0 h1 hz hv0 hv1 fun h' F' N' => h h' F' (News.sub3 N')
theorem Ba.set_3 {prog : Program} {w : World} {A : Around} {E : Value → Shared → Prop} {s : Shared} {h₀ : Heap} {D L : Addr} {z : Array UInt8} {k v : Int} {u t : Tok} {m : Str → Option Value} {x y : Addr × Obj} {news : List (Addr × Obj)} {Q : Unit → Shared → Prop} (F : Fr h₀ L s.heap m) (N : News h₀ L s.heap (x :: y :: (D, Ba.obj z) :: news)) (hap : ∀ p ∈ news, p.1 ≠ D)
    (hx : x.2.cls ≠ .type "bytearray") (hy : y.2.cls ≠ .type "bytearray") (h0 : 0 ≤ k) (h1 : k < z.size) (hz : z.size ≤ 16777216) (hv0 : 0 ≤ v) (hv1 : v < 256)
    (h : ∀ h', Fr h₀ L h' m → News h₀ L h' ((D, Ba.obj (z.setIfInBounds k.toNat v.toNat.toUInt8)) :: news) → Q () { s with heap := h' }) :
    wpAny (model prog w) A (PySem.setItem (.ref D) (.int k u) (.int v t)) Q E s :=
  Ba.set_pre [x, y] F N hap (fun p hp => by rcases List.mem_cons.mp hp with rfl | hp; exact hx; obtain rfl := List.mem_singleton.mp hp; exact hy) h0 h1 hz hv0 hv1 fun h' F' N' => h h' F' (News.sub4 N')
local macro_rules | `(tactic| walk_at "setItem ref int") => `(tactic| (k_here; (with_reducible show wpAny _ _ (PySem.setItem (Value.ref _) (Value.int _ _) (Value.int _ _)) _ _ _); (first | (refine' Ba.set_head ?F ?N ?hap ?h0 ?h1 ?hf ?v0 ?v1 ?_; (case N => exact (by assumption)); (case F => k_asm); (case hap => assumption); (case h0 => (try simp only [fd2]); first | omega | exact fm0 (by omega)); (case h1 => (try simp only [Array.size_setIfInBounds, fd2]); first | omega | exact fm1 (by omega) (by omega)); (case hf => (try simp only [Array.size_setIfInBounds]); omega); (case v0 => first | omega | exact fm0 (by omega)); (case v1 => first | omega | exact fm1 (by omega) (by omega))) | (refine' Ba.set_2 ?F ?N ?hap ?hx ?h0 ?h1 ?hf ?v0 ?v1 ?_; (case N => exact (by assumption)); (case hx => exact not_ba (by decide)); (case F => k_asm); (case hap => assumption); (case h0 => (try simp only [fd2]); first | omega | exact fm0 (by omega)); (case h1 => (try simp only [Array.size_setIfInBounds, fd2]); first | omega | exact fm1 (by omega) (by omega)); (case hf => (try simp only [Array.size_setIfInBounds]); omega); (case v0 => first | omega | exact fm0 (by omega)); (case v1 => first | omega | exact fm1 (by omega) (by omega))) | (refine' Ba.set_3 ?F ?N ?hap ?hx ?hy ?h0 ?h1 ?hf ?v0 ?v1 ?_; (case N => exact (by assumption)); (case hx => exact not_ba (by decide)); (case hy => exact not_ba (by decide)); (case F => k_asm); (case hap => assumption); (case h0 => (try simp only [fd2]); first | omega | exact fm0 (by omega)); (case h1 => (try simp only [Array.size_setIfInBounds, fd2]); first | omega | exact fm1 (by omega) (by omega)); (case hf => (try simp only [Array.size_setIfInBounds]); omega); (case v0 => first | omega | exact fm0 (by omega)); (case v1 => first | omega | exact fm1 (by omega) (by omega)))); intro _ _ _; walk_say "SET"))
section
variable {w : World} {h₀ : Heap} {L fa NL PA : Addr} {cd : Value} {s : Shared} {mg mb : Str → Option Value} {nn : List Int} {vs : List Value} {sz pl : Int} {ts tp : Tok} {rest : Str → Option Value} {ot ow op : Obj} {b : Array UInt8}
  {R : Flow → Shared → Prop}
theorem phIf (X : (hd.heap_39 w.params).In h₀) (T : TopRead hd.view_39 [] mg mb h₀) {q : Array UInt8} {kd hr th nb : Int} {on : Value} {tl : List (Addr × Obj)} {t1 t2 t3 t4 : Tok}
    (F : Fr h₀ L s.heap (dm (.int kd t1) (.int hr t2) (.int th t3) (.int nb t4) on (.ref NL) (.int sz ts) (.int pl tp) rest)) (N : News h₀ L s.heap ((PA, Ba.obj q) :: (L + 1, op) :: tl))
    (hop : op.data = .cell (some (.ref PA))) (hoff : ∀ p ∈ (L + 1, op) :: tl, p.1 ≠ PA) (hsz : 4 ≤ sz ∧ sz ≤ 23) (hq : sz + 2 ≤ q.size ∧ q.size ≤ 26 ∧ q.size % 2 = 0) (hhr : 0 ≤ hr ∧ hr < q.size) (hth : 0 ≤ th ∧ th < q.size)
    (next : ∀ (h' : Heap) (tk : Nat) (rest' : Str → Option Value) (q' : Array UInt8), q'.size = q.size → Fr h₀ L h' (lm (.ref NL) (.int sz ts) (.int pl tp) rest') →
      News h₀ L h' ((PA, Ba.obj q') :: (L + 1, op) :: tl) → 
      R .next { s with heap := h', toks := tk }) :
    wpAny (M w) (callerA.deeper (E31 L fa cd)) (exec hurtIf (E31 L fa cd)) R (fun _ _ => False) s := by
  conv in hurtIf => whnf
  w_on
  try k_fold
  k_steps
  · refine next _ _ _ _ ?_ (Fr.toLm (by assumption)) (by assumption)
    simp only [Array.size_setIfInBounds]
  · obtain ⟨r', F'⟩ := Fr.toLm2 (a := Str.ofString "here") (b := Str.ofString "there") (by decide) (by decide) (by assumption)
    refine next _ _ _ _ ?_ F' (by assumption)
    simp only [Array.size_setIfInBounds]
  · refine next _ _ _ _ ?_ (Fr.toLm (by assumption)) (by assumption)
    simp only [Array.size_setIfInBounds]
  · refine next _ _ _ _ ?_ (Fr.toLm (by assumption)) (by assumption)
    simp only [Array.size_setIfInBounds]
  · refine Hold.elim ?_
    with_unfolding_all refine' For_invVF F ?k1 ?k2 ?_
    case k1 => exact rfl
    case k2 => exact rfl
    k_steps
    rename_i hrg F1 N1 hk1
    refine Hold.elim ?_
    refine iter_rangeS (n := 3) (fun _ m nx => ∃ rest' q', Array.size q' = q.size ∧ nx = (PA, Ba.obj q') :: (L + 1, op) :: tl ∧ m = dm (.int kd t1) (.int hr t2) (.int th t3) (.int nb t4) on (.ref NL) (.int sz ts) (.int pl tp) rest') (fun _ _ => ()) ()
      rfl hrg (by decide) (by decide) F1 N1 ⟨rest, q, rfl, rfl, rfl⟩ ?_ ?_
    · rintro k tt _ m₁ nx h2 tk2 own hk hoff2 ⟨rest', q', hq', rfl, rfl⟩ F2 N2
      have hapo : ∀ p ∈ (L + 1, op) :: (tl ++ own), p.1 ≠ PA := by
        intro p hp
        rcases List.mem_append.mp (show p ∈ ((L + 1, op) :: tl) ++ own from hp) with hp | hp
        · exact hoff p hp
        · exact hoff2 p hp PA (.head _)
      have N3 : News h₀ L h2 ((PA, Ba.obj q') :: (L + 1, op) :: (tl ++ own)) := N2
      clear N2 F1 N1 hk1 hrg
      have hk3 : k = 0 ∨ k = 1 ∨ k = 2 := by have := mem_rangeKs hk; omega
      rcases hk3 with rfl | rfl | rfl
      all_goals k_steps
      all_goals (rename_i h5 F5 N5)
      all_goals (rw [dm_store2 (by decide) (by decide) (by decide) (by decide)] at F5)
      all_goals (refine ⟨_, _, _, _, (PA, Ba.obj _) :: (L + 1, op) :: tl, rfl, F5, N5, fun p hp => List.mem_append_left own hp, fun p hp => List.mem_append_right ((PA, Ba.obj _) :: (L + 1, op) :: tl) hp, rfl, _, _, ?_, rfl, rfl⟩)
      all_goals (rw [Array.size_setIfInBounds]; exact hq')
    · rintro m₁ nx h2 tk2 ⟨rest', q', hq', rfl, rfl⟩ F2 N2
      k_steps
      exact next _ _ _ _ hq' (Fr.toLm F2) N2
  · refine Hold.elim ?_
    rename_i hne _ _ _ _ _ _ _ _ _ _
    refine min3_v rfl F N (fm0 (by omega)) (by omega) (by omega) ?_
    intro h1 tk1 g tg hg0 hg1 hg2 F1 N1
    clear F N
    k_steps
    rename_i h5 F5 N5 v6 t6 e6 _ _
    rename (_ = Ba.at_ q (Int.toNat th)) => ev3
    rw [Ba.at_set_ne (by omega)] at e6
    refine Ba.set_head F5 N5 hoff hth.1 (by rw [Array.size_setIfInBounds]; exact hth.2) (by rw [Array.size_setIfInBounds]; omega) (by omega) (by omega) ?_
    intro h7 F7 N7
    clear F5 N5
    k_steps
    obtain ⟨r', F'⟩ := Fr.toLm1 (a := Str.ofString "gain") (by decide) (by assumption)
    refine next _ _ _ _ ?_ F' (by assumption)
    simp only [Array.size_setIfInBounds]
  · exact next _ _ _ _ rfl (Fr.toLm (by assumption)) (by assumption)
end
end Mine
end

/-! part W10 -/
section
open PySem PySem.W PyProof.Rows PySem.Calls PyProof.V PySem.Spec PySem.Builtin
set_option maxRecDepth 100000
set_option maxHeartbeats 4000000
namespace Mine
theorem fill_w10 : PySem.Challenge.rw_bi0009_01 = PySem.Challenge.rw_bi0009_01 ∧ hd.heap_39 = hd.heap_39 := by k_fill; exact ⟨rfl, rfl⟩
local macro_rules | `(tactic| walk_at "exec If") => `(tactic| refine Hold.intro ?_)
local macro_rules | `(tactic| walk_at "pyIter ref") => `(tactic| refine Hold.intro ?_)
local macro_rules | `(tactic| walk_at "call builtin:len") => `(tactic| (k_here; (with_reducible show wpAny _ _ (call (Value.builtin "len") [Value.ref _]) _ _ _); (refine Ba.len (News.get (by assumption) (.head _)) (by omega) ?_)))
section
variable {w : World} {h₀ : Heap} {L fa NL PA : Addr} {cd : Value} {s : Shared} {mg mb : Str → Option Value} {nn : List Int} {vs : List Value} {sz pl : Int} {ts tp : Tok} {rest : Str → Option Value} {ot ow op : Obj} {b : Array UInt8}
  {R : Flow → Shared → Prop}
theorem ph10t (X : (hd.heap_39 w.params).In h₀) (T : TopRead hd.view_39 [] mg mb h₀) {q : Array UInt8} {WL : Addr} {ws : List Value} {c : Nat} {own : List (Addr × Obj)} {one : Int} {t1 : Tok}
    (F : Fr h₀ L s.heap (fun y => if y = Str.ofString "one" then some (.int one t1) else lm (.ref NL) (.int sz ts) (.int pl tp) rest y)) (N : News h₀ L s.heap ((PA, Ba.obj q) :: (L + 1, op) :: (L + 1 + 1 + 1, ot) :: (L + 1 + 1, ow) :: (WL, W.listOf ws.toArray c) :: (NL, W.listOf vs.toArray 0) :: own))
    (hop : op.data = .cell (some (.ref PA))) (hoff : ∀ p ∈ (L + 1, op) :: (L + 1 + 1 + 1, ot) :: (L + 1 + 1, ow) :: (WL, W.listOf ws.toArray c) :: (NL, W.listOf vs.toArray 0) :: own, p.1 ≠ PA) (hv : IntsAre vs nn) (hnn : nn.length = 36) (hsz : 4 ≤ sz ∧ sz ≤ 23) (hq : sz + 2 ≤ q.size ∧ q.size ≤ 26 ∧ q.size % 2 = 0) (hone : 0 ≤ one ∧ one < 3)
    (next : ∀ (h' : Heap) (tk : Nat) (rest' : Str → Option Value) (q' : Array UInt8), q'.size = q.size → Fr h₀ L h' (lm (.ref NL) (.int sz ts) (.int pl tp) rest') →
      News h₀ L h' ((PA, Ba.obj q') :: (L + 1, op) :: (L + 1 + 1 + 1, ot) :: (L + 1 + 1, ow) :: (WL, W.listOf ws.toArray c) :: (NL, W.listOf vs.toArray 0) :: own) → 
      R .next { s with heap := h', toks := tk }) :
    wpAny (M w) (callerA.deeper (E31 L fa cd)) (execs hurtOf (E31 L fa cd)) R (fun _ _ => False) s := by
  conv in hurtOf => whnf
  w_on
  try k_fold
  k_steps
  refine Hold.elim ?_
  rename_i F1 N1
  refine phIf X T F1 (News.sub3 N1) hop hoff hsz hq ⟨fm0 (by omega), fm1 (by omega) (Int.le_refl _)⟩ ⟨fm0 (by omega), fm1 (by omega) (Int.le_refl _)⟩ ?_
  intro h' tk rest' q' hq' F' N'
  exact wpAny_execs_nil (next h' tk rest' q' hq' F' N')
theorem ph10 (X : (hd.heap_39 w.params).In h₀) (T : TopRead hd.view_39 [] mg mb h₀) {q : Array UInt8} {WL : Addr} {ws : List Value} {c : Nat}
    (F : Fr h₀ L s.heap (lm (.ref NL) (.int sz ts) (.int pl tp) rest)) (N : News h₀ L s.heap [(PA, Ba.obj q), (L + 1, op), (L + 1 + 1 + 1, ot), (L + 1 + 1, ow), (WL, W.listOf ws.toArray c), (NL, W.listOf vs.toArray 0)])
    (hop : op.data = .cell (some (.ref PA))) (hoff : ∀ p ∈ [(L + 1, op), (L + 1 + 1 + 1, ot), (L + 1 + 1, ow), (WL, W.listOf ws.toArray c), (NL, W.listOf vs.toArray 0)], p.1 ≠ PA) (hv : IntsAre vs nn) (hnn : nn.length = 36) (hsz : 4 ≤ sz ∧ sz ≤ 23) (hq : sz + 2 ≤ q.size ∧ q.size ≤ 26 ∧ q.size % 2 = 0)
    (next : ∀ (h' : Heap) (tk : Nat) (rest' : Str → Option Value) (q' : Array UInt8), q'.size = q.size → Fr h₀ L h' (lm (.ref NL) (.int sz ts) (.int pl tp) rest') →
      News h₀ L h' [(PA, Ba.obj q'), (L + 1, op), (L + 1 + 1 + 1, ot), (L + 1 + 1, ow), (WL, W.listOf ws.toArray c), (NL, W.listOf vs.toArray 0)] → 
      wpC (M w) (callerA.deeper (E31 L fa cd)) (execs ((bodyOf 31).drop 11) (E31 L fa cd)) R (fun _ _ => False) { s with heap := h', toks := tk }) :
    wpC (M w) (callerA.deeper (E31 L fa cd)) (execs ((bodyOf 31).drop 10) (E31 L fa cd)) R (fun _ _ => False) s := by
  conv in List.drop 10 _ => whnf
  w_on
  refine wpC_execs_cons (wpC_of ?_)
  with_unfolding_all refine' For_invVF F ?k1 ?k2 ?_
  case k1 => exact rfl
  case k2 => exact rfl
  try k_fold
  k_steps
  rename_i hrg F1 N1 hk1
  refine Hold.elim ?_
  have hb : (nn.getD (Int.toNat 2) 0).fmod 3 + 1 = 1 ∨ (nn.getD (Int.toNat 2) 0).fmod 3 + 1 = 2 ∨ (nn.getD (Int.toNat 2) 0).fmod 3 + 1 = 3 := by
    rw [Int.fmod_eq_emod_of_nonneg _ (by decide)]; omega
  generalize (nn.getD (Int.toNat 2) 0).fmod 3 + 1 = bb at hrg hb
  have hbb : 0 ≤ bb ∧ bb ≤ 3 := by omega
  refine iter_rangeS (n := bb.toNat) (fun _ m nx => ∃ rest' q', Array.size q' = q.size ∧ nx = [(PA, Ba.obj q'), (L + 1, op), (L + 1 + 1 + 1, ot), (L + 1 + 1, ow), (WL, W.listOf ws.toArray c), (NL, W.listOf vs.toArray 0)] ∧ m = lm (.ref NL) (.int sz ts) (.int pl tp) rest') (fun _ _ => ()) ()
    rfl hrg (by rcases hb with h | h | h <;> rw [h] <;> decide) (by rcases hb with h | h | h <;> rw [h] <;> decide) F1 N1 ⟨rest, q, rfl, rfl, rfl⟩ ?_ ?_
  · rintro k tt _ m₁ nx h2 tk2 own hk hoff2 ⟨rest', q', hq', rfl, rfl⟩ F2 N2
    have hk3 := mem_rangeKs hk
    have hapo : ∀ p ∈ (L + 1, op) :: (L + 1 + 1 + 1, ot) :: (L + 1 + 1, ow) :: (WL, W.listOf ws.toArray c) :: (NL, W.listOf vs.toArray 0) :: own, p.1 ≠ PA := by
      intro p hp
      rcases List.mem_append.mp (show p ∈ [(L + 1, op), (L + 1 + 1 + 1, ot), (L + 1 + 1, ow), (WL, W.listOf ws.toArray c), (NL, W.listOf vs.toArray 0)] ++ own from hp) with hp | hp
      · exact hoff p hp
      · exact hoff2 p hp PA (.head _)
    refine ph10t X T F2 N2 hop hapo hv hnn hsz (by rw [hq']; exact hq) (by omega) ?_
    intro h3 tk3 r3 q3 hq3 F3 N3
    exact ⟨_, _, _, _, [(PA, Ba.obj q3), (L + 1, op), (L + 1 + 1 + 1, ot), (L + 1 + 1, ow), (WL, W.listOf ws.toArray c), (NL, W.listOf vs.toArray 0)], rfl, F3, N3, fun p hp => List.mem_append_left own hp, fun p hp => List.mem_append_right [(PA, Ba.obj q3), (L + 1, op), (L + 1 + 1 + 1, ot), (L + 1 + 1, ow), (WL, W.listOf ws.toArray c), (NL, W.listOf vs.toArray 0)] hp, rfl, r3, q3, hq3.trans hq', rfl, rfl⟩
  · rintro m₁ nx h2 tk2 ⟨rest', q', hq', rfl, rfl⟩ F2 N2
    exact next _ _ _ _ hq' F2 N2
end
end Mine
end

/-! part W11 -/
section
open PySem PySem.W PyProof.Rows PySem.Calls PyProof.V PySem.Spec PySem.Builtin
set_option maxRecDepth 100000
set_option maxHeartbeats 4000000
namespace Mine
theorem fill_w11 : PySem.Challenge.rw_bi0009_01 = PySem.Challenge.rw_bi0009_01 ∧ hd.heap_39 = hd.heap_39 := by k_fill; exact ⟨rfl, rfl⟩
local macro_rules | `(tactic| walk_at "callWith ref") => `(tactic| refine Hold.intro ?_)
local macro_rules | `(tactic| walk_at "call type:bytes") => `(tactic| refine Hold.intro ?_)
theorem byteArr_bInts (p : Array UInt8) : byteArr (KBw.bInts p) = p := by
  unfold byteArr KBw.bInts
  rw [List.map_map]
  have : (p.toList.map ((fun n : Int => n.toNat.toUInt8) ∘ fun c : UInt8 => (c.toNat : Int))) = p.toList := by
    conv => rhs; rw [← List.map_id p.toList]
    apply List.map_congr_left
    intro x _
    simp
  rw [this]
theorem bInts_take (p : Array UInt8) (k : Nat) : (KBw.bInts p).take k = KBw.bInts (p.extract 0 k) := by
  unfold KBw.bInts
  rw [← List.map_take]
  simp
theorem bInts_range {p : Array UInt8} : ∀ n ∈ KBw.bInts p, 0 ≤ n ∧ n < 256 := fun _ h => KBw.ints_in h
section
variable {w : World} {h₀ : Heap} {L fa NL PA : Addr} {cd : Value} {s : Shared} {mg mb : Str → Option Value} {nn : List Int} {vs : List Value} {sz pl : Int} {ts tp : Tok} {rest : Str → Option Value} {ot ow op : Obj} {b : Array UInt8}
  {R : Flow → Shared → Prop}
theorem ph11 (X : (hd.heap_39 w.params).In h₀) (T : TopRead hd.view_39 [] mg mb h₀) {q p : Array UInt8} {WL : Addr} {ws : List Value} {c n : Nat}
    (F : Fr h₀ L s.heap (lm (.ref NL) (.int sz ts) (.int pl tp) rest)) (N : News h₀ L s.heap [(PA, Ba.obj q), (L + 1, op), (L + 1 + 1 + 1, ot), (L + 1 + 1, ow), (WL, W.listOf ws.toArray c), (NL, W.listOf vs.toArray 0)])
    (hop : op.data = .cell (some (.ref PA))) (how : ow.data = .cell (some (.ref WL))) (hws : IntsAre ws (KBw.bInts p)) (hsz : 4 ≤ sz ∧ sz ≤ 23) (hp : p.size = 2 * n ∧ sz + 2 ≤ p.size ∧ p.size ≤ 26) (hpl : 0 ≤ pl ∧ pl + 1 < sz)
    (hfl : ∀ x y, Ba.FlRes (Ba.zeroed (p.extract 0 sz.toNat) pl) pl x y → x = Ba.at_ p pl.toNat ∧ y = Ba.at_ p (pl + 1).toNat) (hck : ckv (leSum p n) = 0)
    (next : ∀ (h' : Heap) (tk : Nat), Fr h₀ L h' (lm (.ref NL) (.int sz ts) (.int pl tp) rest) →
      News h₀ L h' [(PA, Ba.obj q), (L + 1, op), (L + 1 + 1 + 1, ot), (L + 1 + 1, ow), (WL, W.listOf ws.toArray c), (NL, W.listOf vs.toArray 0)] → 
      wpC (M w) (callerA.deeper (E31 L fa cd)) (execs ((bodyOf 31).drop 12) (E31 L fa cd)) R (fun _ _ => False) { s with heap := h', toks := tk }) :
    wpC (M w) (callerA.deeper (E31 L fa cd)) (execs ((bodyOf 31).drop 11) (E31 L fa cd)) R (fun _ _ => False) s := by
  conv in List.drop 11 _ => whnf
  w_on
  have hwl : (KBw.bInts p).length = p.size := KBw.ints_length p
  refine wpC_execs_cons (wpC_If (wpC_isTrue_or (wpC_isTrue_Compare1 (wpC_Call ?_)))); k_fold; k_steps
  refine wpC_callWith_fn (X 26 _ (by k_is)) (by exact rfl) ?_; k_steps
  rename_i D1 ws1 h1 F1 N1 hI1 hC1 hL1 l1
  refine Hold.elim ?_
  have hl1 := hI1.length
  rw [bInts_take] at hI1
  refine call_bytes_ints (News.isL N1 (.head _)) hI1 bInts_range (by rw [hl1, sizeLine_eq]; omega) rfl ?_
  intro h2 t2 k2 hk2
  rw [byteArr_bInts]
  have F2 := F1.keptAll hk2
  have N2 := News.sub3 (News.grown N1 hk2)
  clear F1 N1
  have hps : (p.extract 0 sz.toNat).size = sz.toNat := by rw [Array.size_extract]; omega
  k_steps
  refine ⟨F2.keep, fl_wp rfl (Frag.In.keeps X F2.keep) (TopRead.keeps T F2.keep) (.inr ⟨_, rfl⟩) (by omega) hpl.1 (by omega) (room31 _) ?_⟩
  intro h3 tk3 t3 x y hk3 hxy
  have F3 := F2.keptAll hk3
  have N3 := News.grown N2 hk3
  obtain ⟨ex, ey⟩ := hfl x y hxy
  clear F2 N2
  k_steps
  · rename_i hc
    rw [Ba.at_eq, Ba.at_eq, ex, ey] at hc
    omega
  refine Hold.elim ?_
  refine wpAny_callWith_fn (X 19 _ (by k_is)) (by exact rfl) ?_; k_steps
  refine Hold.elim ?_
  refine call_bytes_ints (News.isL N3 (.tail _ (.tail _ (.tail _ (.tail _ (.head _)))))) hws bInts_range (by rw [hws.length, sizeLine_eq]; omega) rfl ?_
  intro h4 t4 k4 hk4
  rw [byteArr_bInts]
  have F4 := F3.keptAll hk4
  have N4 := News.grown N3 hk4
  clear F3 N3
  k_steps
  refine ⟨F4.keep, ck_wp rfl (Frag.In.keeps X F4.keep) (TopRead.keeps T F4.keep) (.inr ⟨_, rfl⟩) (by omega) hp.1 (room31 _) ?_⟩
  intro h5 tk5 t5 hk5
  rw [hck]
  have F5 := F4.keptAll hk5
  have N5 := News.grown N4 hk5
  clear F4 N4
  k_steps
  exact wpC_execs_nil (next _ _ F5 N5)
end
end Mine
end

/-! part W12 -/
section
open PySem PySem.W PyProof.Rows PySem.Calls PyProof.V PySem.Spec PySem.Builtin
set_option maxRecDepth 100000
set_option maxHeartbeats 4000000
namespace Mine
theorem fill_w12 : PySem.Challenge.rw_bi0009_01 = PySem.Challenge.rw_bi0009_01 ∧ hd.heap_39 = hd.heap_39 := by k_fill; exact ⟨rfl, rfl⟩
theorem num_yes {C V : Int} (h : C = 0 ↔ 0 < V ∧ V % 65535 = 0) (h0 : 0 < V) : ¬ ((C == 0) != (V.fmod 65535 == 0)) = true := by
  rw [Int.fmod_eq_emod_of_nonneg _ (by decide)]
  by_cases hc : C = 0
  · have h2 := (h.1 hc).2
    simp [hc, h2]
  · have h2 : ¬ V % 65535 = 0 := fun e => hc (h.2 ⟨h0, e⟩)
    have e1 : (C == 0) = false := by simpa using hc
    have e2 : (V % 65535 == 0) = false := by simpa using h2
    rw [e1, e2]; decide
theorem num_no {C V : Int} (h : C = 0 ↔ 0 < V ∧ V % 65535 = 0) (h0 : ¬ 0 < V) : ¬ ((C == 0) != decide (0 < V)) = true := by
  have hc : ¬ C = 0 := fun e => h0 (h.1 e).1
  have e1 : (C == 0) = false := by simpa using hc
  have e2 : decide (0 < V) = false := by simpa using h0
  rw [e1, e2]; decide
local macro_rules | `(tactic| walk_at "callWith ref") => `(tactic| (k_here; (with_reducible show wpAny _ _ (callWith _ (Value.ref 19) _ _ _) _ _ _); refine Hold.intro ?_))
local macro_rules | `(tactic| walk_at "call ref") => `(tactic| refine Hold.intro ?_)
local macro_rules | `(tactic| walk_at "call type:bytes") => `(tactic| refine Hold.intro ?_)
section
variable {w : World} {h₀ : Heap} {L fa NL PA : Addr} {cd : Value} {s : Shared} {mg mb : Str → Option Value} {nn : List Int} {vs : List Value} {sz pl : Int} {ts tp : Tok} {rest : Str → Option Value} {ot ow op : Obj} {b : Array UInt8}
  {R : Flow → Shared → Prop}
theorem ph12 (X : (hd.heap_39 w.params).In h₀) (T : TopRead hd.view_39 [] mg mb h₀) {q : Array UInt8} {WL : Addr} {ws : List Value} {c n : Nat}
    (F : Fr h₀ L s.heap (lm (.ref NL) (.int sz ts) (.int pl tp) rest)) (N : News h₀ L s.heap [(PA, Ba.obj q), (L + 1, op), (L + 1 + 1 + 1, ot), (L + 1 + 1, ow), (WL, W.listOf ws.toArray c), (NL, W.listOf vs.toArray 0)])
    (hop : op.data = .cell (some (.ref PA))) (hq : q.size = 2 * n ∧ q.size ≤ 26)
    (hnum : ckv (leSum q n) = 0 ↔ 0 < KFB.value (KBw.bInts q) ∧ KFB.value (KBw.bInts q) % 65535 = 0)
    (next : ∀ (h' : Heap) (tk : Nat) (rest' : Str → Option Value), Fr h₀ L h' (lm (.ref NL) (.int sz ts) (.int pl tp) rest') →
      News h₀ L h' [(PA, Ba.obj q), (L + 1, op), (L + 1 + 1 + 1, ot), (L + 1 + 1, ow), (WL, W.listOf ws.toArray c), (NL, W.listOf vs.toArray 0)] → 
      wpC (M w) (callerA.deeper (E31 L fa cd)) (execs ((bodyOf 31).drop 14) (E31 L fa cd)) R (fun _ _ => False) { s with heap := h', toks := tk }) :
    wpC (M w) (callerA.deeper (E31 L fa cd)) (execs ((bodyOf 31).drop 12) (E31 L fa cd)) R (fun _ _ => False) s := by
  conv in List.drop 12 _ => whnf
  w_on
  refine wpC_execs_cons (wpC_of ?_); k_fold; k_steps
  refine Hold.elim ?_
  refine Ba.bytes_of_ba (News.get (by assumption) (.tail _ (.head _))) (by omega) ?_
  intro t1 k1
  k_steps
  refine Hold.elim ?_
  rename_i F1 N1 l1
  refine Ba.from_big (KFB.at_of N1 (.head _)) (by omega) ?_
  dsimp only
  generalize hV : KFB.value (KBw.bInts q) = V at hnum ⊢
  have F2 := F1
  have N2 := News.sub3 N1
  clear F1 N1
  k_steps
  refine wpC_execs_cons (wpC_of ?_); k_fold; k_steps
  refine Hold.elim ?_
  rename_i F3 N3
  refine wpAny_callWith_fn (X 19 _ (by k_is)) (by exact rfl) ?_; k_steps
  refine ⟨F3.keep, ck_wp rfl (Frag.In.keeps X F3.keep) (TopRead.keeps T F3.keep) (.inl ⟨_, rfl, N3.get (.head _)⟩) (by omega) hq.1 (room31 _) ?_⟩
  intro h5 tk5 t5 hk5
  generalize hC : ckv (leSum q n) = C at hnum ⊢
  have F5 := F3.keptAll hk5
  have N5 := News.grown N3 hk5
  clear F3 N3
  k_steps
  · rename_i h0 hc
    exact absurd hc (num_yes hnum h0)
  · rw [lm_store (by decide) (by decide) (by decide)] at F5
    exact next _ _ _ F5 N5
  · rename_i h0 hc
    exact absurd hc (num_no hnum h0)
  · rw [lm_store (by decide) (by decide) (by decide)] at F5
    exact next _ _ _ F5 N5
end
end Mine
end

/-! part W14 -/
section
open PySem PySem.W PyProof.Rows PySem.Calls PyProof.V PySem.Spec PySem.Builtin
set_option maxRecDepth 100000
set_option maxHeartbeats 4000000
namespace Mine
theorem fill_w14 : PySem.Challenge.rw_bi0009_01 = PySem.Challenge.rw_bi0009_01 ∧ hd.heap_39 = hd.heap_39 := by k_fill; exact ⟨rfl, rfl⟩
/-- what the octets turned by -/
def difs (q p : Array UInt8) (sz : Int) : List Int := List.map (fun k' : Int => (Ba.bi q).getD k'.toNat 0 - (KBw.bInts p).getD k'.toNat 0) (rangeKs 0 (sz - 0).toNat)
def difw (dl : List Int) (sz : Int) : List Int := List.map (fun k' : Int => k' * dl.getD k'.toNat 0) (rangeKs 0 (sz - 0).toNat)
theorem idxQ {k sz : Int} {z n : Nat} (h : k < 0 + ((sz - 0).toNat : Int)) (hsz : 4 ≤ sz ∧ sz ≤ 23) (hq : z = 2 * n ∧ sz + 2 ≤ (z : Int) ∧ z ≤ 26) : k < (z : Int) := by omega
theorem idxZ {sz : Int} {z n : Nat} (hq : z = 2 * n ∧ sz + 2 ≤ (z : Int) ∧ z ≤ 26) : z ≤ 16777216 := by omega
local macro_rules | `(tactic| walk_at "subscriptTail") => `(tactic| ((with_reducible show wpAny _ _ (subscriptTail (PySem.Expr.Name (Str.ofString "packet") _) _ (Value.ref _) (Value.int _ _)) _ _ _); (refine' Ba.item_ba ?ho ?h0 ?h1 ?hf ?_ ?s ?t; (case ho => first | exact News.get (by assumption) (.head _) | exact News.get (by assumption) (.tail _ (.tail _ (.tail _ (.head _)))) | exact News.get (by assumption) (.tail _ (.head _)) | exact News.get (by assumption) (.tail _ (.tail _ (.head _)))); (case h0 => first | assumption | omega); (case h1 => first | exact idxQ (by assumption) (by assumption) (by assumption) | omega); (case hf => first | exact idxZ (by assumption) | omega); (case s => with_unfolding_all rfl); (case t => intro _; with_unfolding_all rfl)); intro _; walk_say "ITEM"))
theorem News.isL7 {h₀ h : Heap} {L a : Addr} {x1 x2 x3 x4 x5 x6 x7 : Addr × Obj} {vs : List Value} {c : Nat} {tl : List (Addr × Obj)} (N : News h₀ L h (x1 :: x2 :: x3 :: x4 :: x5 :: x6 :: x7 :: (a, W.listOf vs.toArray c) :: tl)) : h.IsList a vs.toArray :=
  News.isL N (.tail _ (.tail _ (.tail _ (.tail _ (.tail _ (.tail _ (.tail _ (.head _))))))))
theorem idxW {k sz : Int} {l z n : Nat} (h : k < 0 + ((sz - 0).toNat : Int)) (hsz : 4 ≤ sz ∧ sz ≤ 23) (hq : z = 2 * n ∧ sz + 2 ≤ (z : Int) ∧ z ≤ 26) (hl : l = z) : k < (l : Int) := by omega
theorem idxL {k sz : Int} (h : k < 0 + ((sz - 0).toNat : Int)) (hsz : 4 ≤ sz ∧ sz ≤ 23) : k < 2 ^ 63 :=
  have : k < 23 := by omega
  Int.lt_of_lt_of_le this (by decide)
theorem idxT {k sz : Int} {l : Nat} (h : k < 0 + ((sz - 0).toNat : Int)) (hsz : 4 ≤ sz ∧ sz ≤ 23) (hl : l = sz.toNat) : k < (l : Int) := by omega
theorem mulK {k sz b : Int} (h0 : 0 ≤ k) (h : k < 0 + ((sz - 0).toNat : Int)) (hsz : 4 ≤ sz ∧ sz ≤ 23) : IntMulOk k b :=
  have h1 : k < 23 := by omega
  PySem.IntMulOk.of_left (PySem.intBits_le_64 (by omega) (by omega))
local macro_rules | `(tactic| walk_at "binaryOp Mult int int") => `(tactic| (refine mul_int ?_ (mulK (by assumption) (by assumption) (by assumption))))
theorem News.isL3 {h₀ h : Heap} {L a : Addr} {x1 x2 x3 : Addr × Obj} {vs : List Value} {tl : List (Addr × Obj)} (N : News h₀ L h (x1 :: x2 :: x3 :: (a, LCg.lst vs) :: tl)) : h.IsList a vs.toArray :=
  News.isL N (.tail _ (.tail _ (.tail _ (.head _))))
local macro_rules | `(tactic| walk_at "subscriptTail Name Name ref int") => `(tactic| ((with_reducible show wpAny _ _ (subscriptTail (PySem.Expr.Name (Str.ofString "turned") _) _ (Value.ref _) (Value.int _ _)) _ _ _); (refine' item_list_ints ?k1 ?k2 ?k3 ?k4 ?k5 ?_; (case k1 => exact News.isL3 (by assumption)); (case k2 => assumption); (case k3 => assumption); (case k4 => exact idxT (by assumption) (by assumption) (by assumption)); (case k5 => exact idxL (by assumption) (by assumption))); intro _; walk_say "TURNED"))
local macro_rules | `(tactic| walk_at "subscriptTail Name Name ref int") => `(tactic| ((with_reducible show wpAny _ _ (subscriptTail (PySem.Expr.Name (Str.ofString "whole") _) _ (Value.ref _) (Value.int _ _)) _ _ _); (refine' item_list_ints ?k1 ?k2 ?k3 ?k4 ?k5 ?_; (case k1 => exact News.isL7 (by assumption)); (case k2 => assumption); (case k3 => assumption); (case k4 => exact idxW (by assumption) (by assumption) (by assumption) (by assumption)); (case k5 => exact idxL (by assumption) (by assumption))); intro _; walk_say "WHOLE"))
section
variable {w : World} {h₀ : Heap} {L fa NL PA : Addr} {cd : Value} {s : Shared} {mg mb : Str → Option Value} {nn : List Int} {vs : List Value} {sz pl : Int} {ts tp : Tok} {rest : Str → Option Value} {ot ow op : Obj} {b : Array UInt8}
  {R : Flow → Shared → Prop}
theorem ph14 (X : (hd.heap_39 w.params).In h₀) (T : TopRead hd.view_39 [] mg mb h₀) {q p : Array UInt8} {WL : Addr} {ws : List Value} {c n : Nat}
    (F : Fr h₀ L s.heap (lm (.ref NL) (.int sz ts) (.int pl tp) rest)) (N : News h₀ L s.heap [(PA, Ba.obj q), (L + 1, op), (L + 1 + 1 + 1, ot), (L + 1 + 1, ow), (WL, W.listOf ws.toArray c), (NL, W.listOf vs.toArray 0)])
    (hop : op.data = .cell (some (.ref PA))) (how : ow.data = .cell (some (.ref WL))) (hot : ot.data = .cell none) (hws : IntsAre ws (KBw.bInts p)) (hsz : 4 ≤ sz ∧ sz ≤ 23) (hp : p.size = q.size) (hq : q.size = 2 * n ∧ sz + 2 ≤ q.size ∧ q.size ≤ 26)
    (next : ∀ (h' : Heap) (tk : Nat) (hv : Bool) (ot' : Obj), (hv = true ↔ (difs q p sz).sum % 255 = 0 ∧ (difw (difs q p sz) sz).sum % 255 = 0) → Fr h₀ L h' (fun y => if y = Str.ofString "holds" then some (.bool hv) else lm (.ref NL) (.int sz ts) (.int pl tp) rest y) →
      News h₀ L h' [(PA, Ba.obj q), (L + 1, op), (L + 1 + 1 + 1, ot'), (L + 1 + 1, ow), (WL, W.listOf ws.toArray c), (NL, W.listOf vs.toArray 0)] → 
      wpC (M w) (callerA.deeper (E31 L fa cd)) (execs ((bodyOf 31).drop 16) (E31 L fa cd)) R (fun _ _ => False) { s with heap := h', toks := tk }) :
    wpC (M w) (callerA.deeper (E31 L fa cd)) (execs ((bodyOf 31).drop 14) (E31 L fa cd)) R (fun _ _ => False) s := by
  conv in List.drop 14 _ => whnf
  w_on
  have hwl : (KBw.bInts p).length = q.size := by rw [KBw.ints_length, hp]
  refine wpC_execs_cons (wpC_of ?_); k_fold; (set_option maxHeartbeats 300000 in k_steps)
  rename_i hkk g1 ys hI8 hL8 D1 h1 tk1 F0 N0 o1 h2 o2 F2 N2 ho2
  have N3 : News h₀ L h2 [(D1, LCg.lst ys), (PA, Ba.obj q), (L + 1, op), (L + 1 + 1 + 1, o2), (L + 1 + 1, ow), (WL, W.listOf ws.toArray c), (NL, W.listOf vs.toArray 0)] := N2
  have hdl : (List.map (fun k' : Int => (Ba.bi q).getD k'.toNat 0 - (KBw.bInts p).getD k'.toNat 0) (rangeKs 0 (sz - 0).toNat)).length = sz.toNat := by rw [List.length_map, rangeKs_length]; simp
  generalize hdle : List.map (fun k' : Int => (Ba.bi q).getD k'.toNat 0 - (KBw.bInts p).getD k'.toNat 0) (rangeKs 0 (sz - 0).toNat) = dl at hI8 hL8 hdl
  have hdd : difs q p sz = dl := hdle
  rw [hdd] at next
  clear hdle hdd
  have F3 := F2
  clear F0 N0 N2 F2 o1 hkk hL8
  refine wpC_execs_cons (wpC_of ?_); k_fold; k_steps
  · rename (dl.sum.fmod 255 = 0) => h15
    rename_i h5 F5 N5
    refine next _ _ _ _ ?_ F5 (News.sub4 N5)
    show ((difw dl sz).sum.fmod 255 == 0) = true ↔ _
    rw [Int.fmod_eq_emod_of_nonneg _ (by decide)] at h15 ⊢
    simp [h15]
  · rename_i h15 h5 F5 N5
    refine next _ _ _ _ ?_ F5 (News.sub3 N5)
    rw [Int.fmod_eq_emod_of_nonneg _ (by decide)] at h15 ⊢
    simp [h15]
end
end Mine
end

/-! part W16 -/
section
open PySem PySem.W PyProof.Rows PySem.Calls PyProof.V PySem.Spec PySem.Builtin
set_option maxRecDepth 100000
set_option maxHeartbeats 4000000
namespace Mine
theorem fill_w16 : PySem.Challenge.rw_bi0009_01 = PySem.Challenge.rw_bi0009_01 ∧ hd.heap_39 = hd.heap_39 := by k_fill; exact ⟨rfl, rfl⟩
theorem Ba.item_at {prog : Program} {w : World} {A : Around} {E : Value → Shared → Prop} {s : Shared} {h₀ : Heap} {L : Addr} {value slice : PySem.Expr} {k : Int} {u : Tok} {Q : Value → Shared → Prop} {a : Addr} {q : Array UInt8} {m : Str → Option Value} {tl : List (Addr × Obj)} (_F : Fr h₀ L s.heap m) (N : News h₀ L s.heap ((a, obj q) :: tl)) (h0 : 0 ≤ k) (h1 : k < q.size) (hf : q.size ≤ 16777216)
    (h : ∀ t, Q (.int (at_ q k.toNat) t) { s with toks := s.toks + 1 })
    (hs : subscripted slice false (.ref a) (.int k u) = operate [.int k u, .ref a] (PySem.getItem (.ref a) (.int k u)) := by with_unfolding_all rfl)
    (ht : ∀ r, letTemporaryGo value (.ref a) r = pure () := by intro _; with_unfolding_all rfl) :
    wpAny (model prog w) A (subscriptTail value slice (.ref a) (.int k u)) Q E s :=
  item_ba (N.get (.head _)) h0 h1 hf (fun t => by rw [at_eq]; exact h t) hs ht
theorem Fr.holds2 {h₀ h : Heap} {L : Addr} {v1 v0 nv sv pv : Value} {rest : Str → Option Value} (F : Fr h₀ L h (fun y => if y = Str.ofString "holds" then some v1 else if y = Str.ofString "holds" then some v0 else lm nv sv pv rest y)) :
    Fr h₀ L h (fun y => if y = Str.ofString "holds" then some v1 else lm nv sv pv (fun y => if y = Str.ofString "holds" then some v0 else rest y) y) := by
  have F' : Fr h₀ L h (fun y => if y = Str.ofString "holds" then some v1 else (fun y => if y = Str.ofString "holds" then some v0 else lm nv sv pv rest y) y) := F
  rw [lm_store (by decide) (by decide) (by decide)] at F'
  exact F'
theorem Ba.cut_upto {b : Array UInt8} {hi : Int} (h0 : 0 ≤ hi) (h2 : hi ≤ b.size) : Ba.cut b none (some hi) none = b.extract 0 hi.toNat := by
  have := Ba.cut_head (b := b) (hi := hi.toNat) (by omega)
  rw [Int.toNat_of_nonneg h0] at this
  exact this
local macro_rules | `(tactic| walk_at "subscriptTail") => `(tactic| (k_here; (with_reducible show wpAny _ _ (subscriptTail (PySem.Expr.Name (Str.ofString "packet") _) _ (Value.ref _) (Value.int _ _)) _ _ _); (refine' Ba.item_at ?F ?N ?h0 ?h1 ?hf ?_ ?s ?t; (case F => k_asm); (case N => exact (by assumption)); (case h0 => omega); (case h1 => omega); (case hf => omega); (case s => with_unfolding_all rfl); (case t => intro _; with_unfolding_all rfl)); intro _; walk_say "ITEM"))
local macro_rules | `(tactic| walk_at "subscriptTail Name Slice ref ref") => `(tactic| refine Hold.intro ?_)
section
variable {w : World} {h₀ : Heap} {L fa NL PA : Addr} {cd : Value} {s : Shared} {mg mb : Str → Option Value} {nn : List Int} {vs : List Value} {sz pl : Int} {ts tp : Tok} {rest : Str → Option Value} {ot ow op : Obj} {b : Array UInt8}
  {R : Flow → Shared → Prop}
theorem ph16 (X : (hd.heap_39 w.params).In h₀) (T : TopRead hd.view_39 [] mg mb h₀) {q : Array UInt8} {WL : Addr} {ws : List Value} {c n : Nat} {hv : Bool}
    (F : Fr h₀ L s.heap (fun y => if y = Str.ofString "holds" then some (.bool hv) else lm (.ref NL) (.int sz ts) (.int pl tp) rest y)) (N : News h₀ L s.heap [(PA, Ba.obj q), (L + 1, op), (L + 1 + 1 + 1, ot), (L + 1 + 1, ow), (WL, W.listOf ws.toArray c), (NL, W.listOf vs.toArray 0)])
    (hop : op.data = .cell (some (.ref PA))) (hsz : 4 ≤ sz ∧ sz ≤ 23) (hq : q.size = 2 * n ∧ sz + 2 ≤ q.size ∧ q.size ≤ 26) (hpl : 0 ≤ pl ∧ pl + 1 < sz)
    (next : ∀ (h' : Heap) (tk : Nat) (rest' : Str → Option Value) (hb : Bool), (hb = true ↔ hv = true ∧ 0 < Ba.at_ q pl.toNat ∧ 0 < Ba.at_ q (pl + 1).toNat) → Fr h₀ L h' (fun y => if y = Str.ofString "holds" then some (.bool hb) else lm (.ref NL) (.int sz ts) (.int pl tp) rest' y) →
      News h₀ L h' [(PA, Ba.obj q), (L + 1, op), (L + 1 + 1 + 1, ot), (L + 1 + 1, ow), (WL, W.listOf ws.toArray c), (NL, W.listOf vs.toArray 0)] → 
      wpC (M w) (callerA.deeper (E31 L fa cd)) (execs ((bodyOf 31).drop 17) (E31 L fa cd)) R (fun _ _ => False) { s with heap := h', toks := tk }) :
    wpC (M w) (callerA.deeper (E31 L fa cd)) (execs ((bodyOf 31).drop 16) (E31 L fa cd)) R (fun _ _ => False) s := by
  conv in List.drop 16 _ => whnf
  w_on
  refine wpC_execs_cons (wpC_of ?_); k_fold; k_steps
  · rename (hv = true) => e1
    rename (0 < Ba.at_ q (Int.toNat pl)) => e2
    rename_i h5 F5 N5
    exact next _ _ _ _ (by simp [e1, e2]) (Fr.holds2 F5) N5
  · rename (¬ 0 < Ba.at_ q (Int.toNat pl)) => e2
    rename_i h5 F5 N5
    exact next _ _ _ _ (by simp [e2]) (Fr.holds2 F5) N5
  · rename (hv = false) => e1
    rename_i h5 F5 N5
    exact next _ _ _ _ (by simp [e1]) (Fr.holds2 F5) N5
theorem ph17 (X : (hd.heap_39 w.params).In h₀) (T : TopRead hd.view_39 [] mg mb h₀) {q : Array UInt8} {WL : Addr} {ws : List Value} {c n : Nat} {hb : Bool}
    (F : Fr h₀ L s.heap (fun y => if y = Str.ofString "holds" then some (.bool hb) else lm (.ref NL) (.int sz ts) (.int pl tp) rest y)) (N : News h₀ L s.heap [(PA, Ba.obj q), (L + 1, op), (L + 1 + 1 + 1, ot), (L + 1 + 1, ow), (WL, W.listOf ws.toArray c), (NL, W.listOf vs.toArray 0)])
    (hop : op.data = .cell (some (.ref PA))) (hsz : 4 ≤ sz ∧ sz ≤ 23) (hq : q.size = 2 * n ∧ sz + 2 ≤ q.size ∧ q.size ≤ 26) (hpl : 0 ≤ pl ∧ pl + 1 < sz)
    (hfin : ∀ x y, Ba.FlRes (Ba.zeroed (q.extract 0 sz.toNat) pl) pl x y → ((256 * x + y = Ba.at_ q pl.toNat * 256 + Ba.at_ q (pl + 1).toNat) ↔ hb = true))
    (next : ∀ (h' : Heap) (tk : Nat) (m' : Str → Option Value), Fr h₀ L h' m' → R (.ret (.bool true)) { s with heap := h', toks := tk }) :
    wpC (M w) (callerA.deeper (E31 L fa cd)) (execs ((bodyOf 31).drop 17) (E31 L fa cd)) R (fun _ _ => False) s := by
  conv in List.drop 17 _ => whnf
  w_on
  refine wpC_execs_cons (wpC_Return_some (wpC_Compare1 (wpC_Compare1 (wpC_Call ?_)))); k_fold; k_steps
  refine wpC_callWith_fn (X 26 _ (by k_is)) (by exact rfl) ?_; k_steps
  have F1 := F
  have N1 := N
  refine Ba.slice_ba F1 N1 (N1.get (.head _)) .none (.int _ _) .none (by decide) (by rw [Ba.cut_upto (by omega) (by omega), Array.size_extract]; omega) ?_
  intro h2 D2 F2 N2 hk2 hD2 hD3 hD4 hD5
  rw [Ba.cut_upto (by omega) (by omega)] at hD5
  have hps : (q.extract 0 sz.toNat).size = sz.toNat := by rw [Array.size_extract]; omega
  clear F1 N1 F N
  try dsimp only
  k_steps
  refine ⟨F2.keep, fl_wp rfl (Frag.In.keeps X F2.keep) (TopRead.keeps T F2.keep) (.inl ⟨_, rfl, hD5⟩) (by omega) hpl.1 (by omega) (room31 _) ?_⟩
  intro h3 tk3 t3 x y hk3 hxy
  have F3 := F2.keptAll hk3
  have N3 := News.grown N2 hk3
  have hf := hfin x y hxy
  clear F2 N2
  k_steps
  have e : (256 * x + y == Ba.at_ q pl.toNat * 256 + Ba.at_ q (pl + 1).toNat) = hb := by
    cases hbb : hb with
    | true => exact beq_iff_eq.mpr (hf.mpr hbb)
    | false => exact beq_eq_false_iff_ne.mpr fun h => by have := hf.mp h; rw [hbb] at this; cases this
  have e2 : (hb == hb) = true := beq_self_eq_true hb
  rw [e, e2]
  exact next _ _ _ F3
end
end Mine
end

/-! part Pl -/
section
open PySem PySem.W PyProof.Rows PySem.Calls PyProof.V PySem.Spec PySem.Builtin
set_option maxRecDepth 100000
set_option maxHeartbeats 4000000
namespace Mine
namespace Pl
/-- the sum of a function's first values -/
def sm (f : Nat → Int) (n : Nat) : Int := ((List.range n).map f).sum
theorem sm_zero (f : Nat → Int) : sm f 0 = 0 := rfl
theorem sm_succ (f : Nat → Int) (n : Nat) : sm f (n + 1) = sm f n + f n := by
  unfold sm
  rw [List.range_succ, List.map_append, List.sum_append]
  simp
theorem sm_two {f g : Nat → Int} {off : Nat} (h : ∀ i, i ≠ off → i ≠ off + 1 → f i = g i) : ∀ L : Nat,
    sm f L - sm g L = (if off < L then f off - g off else 0) + (if off + 1 < L then f (off + 1) - g (off + 1) else 0)
  | 0 => by simp [sm_zero]
  | L + 1 => by
    rw [sm_succ, sm_succ]
    have ih := sm_two h L
    by_cases h1 : L = off
    · subst h1
      rw [if_neg (Nat.lt_irrefl _), if_neg (by omega)] at ih
      rw [if_pos (Nat.lt_succ_self _), if_neg (by omega)]
      omega
    · by_cases h2 : L = off + 1
      · subst h2
        rw [if_pos (by omega), if_neg (Nat.lt_irrefl _)] at ih
        rw [if_pos (by omega), if_pos (Nat.lt_succ_self _)]
        omega
      · have e := h L h1 h2
        have i1 : (off < L + 1) = (off < L) := by apply propext; omega
        have i2 : (off + 1 < L + 1) = (off + 1 < L) := by apply propext; omega
        simp only [i1, i2]
        omega
theorem sm_diff {f g : Nat → Int} {off L : Nat} (h : ∀ i, i ≠ off → i ≠ off + 1 → f i = g i) (hL : off + 1 < L) :
    sm f L = sm g L + (f off - g off) + (f (off + 1) - g (off + 1)) := by
  have := sm_two h L
  rw [if_pos (by omega), if_pos hL] at this
  omega
theorem sm_congr {f g : Nat → Int} {L : Nat} (h : ∀ i, i < L → f i = g i) : sm f L = sm g L := by
  unfold sm
  congr 1
  apply List.map_congr_left
  intro i hi
  exact h i (List.mem_range.mp hi)
theorem sm_sub {f g : Nat → Int} : ∀ L : Nat, sm (fun i => f i - g i) L = sm f L - sm g L
  | 0 => rfl
  | L + 1 => by rw [sm_succ, sm_succ, sm_succ, sm_sub L]; omega
open Ba
abbrev s0 (A : Array UInt8) (L : Nat) : Int := sm (at_ A) L
abbrev s1 (A : Array UInt8) (L : Nat) : Int := sm (fun i => (i : Int) * at_ A i) L
theorem c0_eq (A : Array UInt8) (L : Nat) : Ba.c0 A L = s0 A L := rfl
theorem c1_eq (A : Array UInt8) : ∀ L : Nat, Ba.c1 A L = L * s0 A L - s1 A L
  | 0 => by simp [Ba.c1, sm_zero]
  | L + 1 => by
    rw [show Ba.c1 A (L + 1) = Ba.c1 A L + Ba.c0 A (L + 1) from rfl, c1_eq A L, c0_eq]
    show _ = ((L + 1 : Nat) : Int) * sm (at_ A) (L + 1) - sm (fun i => (i : Int) * at_ A i) (L + 1)
    show (L : Int) * sm (at_ A) L - sm (fun i => (i : Int) * at_ A i) L + sm (at_ A) (L + 1) = _
    rw [sm_succ, sm_succ]
    have e : ((L + 1 : Nat) : Int) = (L : Int) + 1 := by omega
    rw [e, Int.mul_add, Int.add_mul, Int.add_mul]
    omega
/-! the octets of made rows -/
theorem at_append_left {A B : Array UInt8} {i : Nat} (h : i < A.size) : at_ (A ++ B) i = at_ A i := by
  unfold at_
  rw [Array.getD_eq_getD_getElem?, Array.getD_eq_getD_getElem?, Array.getElem?_append_left h]
theorem at_append_right {A B : Array UInt8} {i : Nat} (h : A.size ≤ i) : at_ (A ++ B) i = at_ B (i - A.size) := by
  unfold at_
  rw [Array.getD_eq_getD_getElem?, Array.getD_eq_getD_getElem?, Array.getElem?_append_right h]
theorem at_set_eq {A : Array UInt8} {i : Nat} {x : Int} (h : i < A.size) (h0 : 0 ≤ x) (h1 : x < 256) : at_ (A.setIfInBounds i x.toNat.toUInt8) i = x := by
  unfold at_
  rw [Array.getD_eq_getD_getElem?, Array.getElem?_setIfInBounds_self_of_lt h]
  show ((x.toNat.toUInt8).toNat : Int) = x
  have : x.toNat.toUInt8.toNat = x.toNat % 256 := by simp
  rw [this]
  omega
theorem at_set_ne {A : Array UInt8} {i j : Nat} {x : UInt8} (h : i ≠ j) : at_ (A.setIfInBounds i x) j = at_ A j := by
  unfold at_
  rw [Array.getD_eq_getD_getElem?, Array.getD_eq_getD_getElem?, Array.getElem?_setIfInBounds_ne h]
theorem at_extract {A : Array UInt8} {lo hi i : Nat} (h : i < hi - lo) (hh : hi ≤ A.size) : at_ (A.extract lo hi) i = at_ A (lo + i) := by
  unfold at_
  rw [Array.getD_eq_getD_getElem?, Array.getD_eq_getD_getElem?, Array.getElem?_extract]
  rw [if_pos (by omega)]
theorem at_zeroed {A : Array UInt8} {off : Int} (h0 : 0 ≤ off) (h1 : off + 1 < A.size) (i : Nat) :
    at_ (zeroed A off) i = if i = off.toNat ∨ i = off.toNat + 1 then 0 else at_ A i := by
  unfold zeroed
  have z1 : (A.extract 0 off.toNat).size = off.toNat := by rw [Array.size_extract]; omega
  have z2 : (byteArr [0, 0]).size = 2 := rfl
  have z3 : (A.extract 0 off.toNat ++ byteArr [0, 0]).size = off.toNat + 2 := by rw [Array.size_append, z1, z2]
  by_cases c1 : i < off.toNat
  · rw [at_append_left (by omega), at_append_left (by omega), at_extract (by omega) (by omega), if_neg (by omega), Nat.zero_add]
  · by_cases c2 : i < off.toNat + 2
    · rw [at_append_left (by omega), at_append_right (by omega), z1, if_pos (by omega)]
      have : i - off.toNat = 0 ∨ i - off.toNat = 1 := by omega
      rcases this with e | e <;> rw [e] <;> rfl
    · rw [at_append_right (by omega), z3, if_neg (by omega)]
      by_cases c3 : i < A.size
      · rw [at_extract (by omega) (by omega)]
        congr 1
        omega
      · have e1 : at_ A i = 0 := by unfold at_; simp [Array.getD, c3]
        have : ¬ i - (off.toNat + 2) < (A.extract (off + 2).toNat A.size).size := by rw [Array.size_extract]; omega
        have e2 : at_ (A.extract (off + 2).toNat A.size) (i - (off.toNat + 2)) = 0 := by unfold at_; simp only [Array.getD, this, dif_neg, not_false_iff]; rfl
        rw [e1, e2]
theorem at_put2 {A : Array UInt8} {off x y : Int} (h0 : 0 ≤ off) (h1 : off + 1 < A.size) (hx : 0 ≤ x ∧ x < 256) (hy : 0 ≤ y ∧ y < 256) (i : Nat) :
    at_ (put2 A off x y) i = if i = off.toNat then x else if i = off.toNat + 1 then y else at_ A i := by
  have e : (off + 1).toNat = off.toNat + 1 := by omega
  unfold put2
  rw [e]
  by_cases c1 : i = off.toNat
  · subst c1
    rw [if_pos rfl, at_set_ne (by omega), at_set_eq (by omega) hx.1 hx.2]
  · rw [if_neg c1]
    by_cases c2 : i = off.toNat + 1
    · subst c2
      rw [if_pos rfl, at_set_eq (by rw [Array.size_setIfInBounds]; omega) hy.1 hy.2]
    · rw [if_neg c2, at_set_ne (by omega), at_set_ne (by omega)]
end Pl
end Mine
end

/-! part Pl2 -/
section
open PySem PySem.W PyProof.Rows PySem.Calls PyProof.V PySem.Spec PySem.Builtin
set_option maxRecDepth 100000
set_option maxHeartbeats 4000000
namespace Mine
namespace Pl
open Ba
/-- the two congruences, of a row as it lies -/
theorem flRes_iff {A : Array UInt8} {off x y : Int} {L : Nat} (hA : A.size = L) (h0 : 0 ≤ off) (h1 : off + 1 < A.size) :
    FlRes (zeroed A off) off x y ↔ (1 ≤ x ∧ x ≤ 255) ∧ (1 ≤ y ∧ y ≤ 255) ∧
      (s1 A L - (off + 1) * s0 A L + at_ A off.toNat - x) % 255 = 0 ∧ (s0 A L - at_ A off.toNat - at_ A (off.toNat + 1) + x + y) % 255 = 0 := by
  have hz : (zeroed A off).size = L := by rw [zeroed_size h0 h1, hA]
  have hoff : ((off.toNat : Nat) : Int) = off := Int.toNat_of_nonneg h0
  have hz1 := at_zeroed h0 h1
  have e0 : s0 A L = s0 (zeroed A off) L + at_ A off.toNat + at_ A (off.toNat + 1) := by
    have := sm_diff (f := at_ A) (g := at_ (zeroed A off)) (off := off.toNat) (L := L) (fun i a b => by rw [hz1, if_neg (by omega)]) (by omega)
    rw [hz1 off.toNat, hz1 (off.toNat + 1), if_pos (by omega), if_pos (by omega)] at this
    show sm (at_ A) L = sm (at_ (zeroed A off)) L + _ + _
    omega
  have e1 : s1 A L = s1 (zeroed A off) L + off * at_ A off.toNat + (off + 1) * at_ A (off.toNat + 1) := by
    have := sm_diff (f := fun i => (i : Int) * at_ A i) (g := fun i => (i : Int) * at_ (zeroed A off) i) (off := off.toNat) (L := L) (fun i a b => by rw [hz1, if_neg (by omega)]) (by omega)
    rw [hz1 off.toNat, hz1 (off.toNat + 1), if_pos (by omega), if_pos (by omega)] at this
    show sm (fun i => (i : Int) * at_ A i) L = sm (fun i => (i : Int) * at_ (zeroed A off) i) L + _ + _
    have e2 : ((off.toNat + 1 : Nat) : Int) = off + 1 := by omega
    rw [e2, hoff] at this
    omega
  unfold FlRes
  rw [hz, c1_eq, c0_eq, e0, e1]
  generalize s0 (zeroed A off) L = S
  generalize s1 (zeroed A off) L = W
  generalize at_ A off.toNat = u
  generalize at_ A (off.toNat + 1) = v
  have k1 : ((L : Int) - off - 1) * S - (L * S - W) - x = W + off * u + (off + 1) * v - (off + 1) * (S + u + v) + u - x := by
    rw [Int.sub_mul, Int.sub_mul, Int.mul_add, Int.mul_add, Int.add_mul, Int.add_mul, Int.add_mul, Int.one_mul]
    omega
  have k2 : S + x + y = S + u + v - u - v + x + y := by omega
  rw [k1, k2]
theorem uniq {x x' t : Int} (hx : 1 ≤ x ∧ x ≤ 255) (hx' : 1 ≤ x' ∧ x' ≤ 255) (h : (t - x) % 255 = 0) (h' : (t - x') % 255 = 0) : x' = x := by omega
/-- the row that was built bears its own octets -/
theorem own {b : Array UInt8} {off x y : Int} (h0 : 0 ≤ off) (h1 : off + 1 < b.size) (h : FlRes (zeroed b off) off x y) :
    FlRes (zeroed (put2 b off x y) off) off x y ∧ at_ (put2 b off x y) off.toNat = x ∧ at_ (put2 b off x y) (off.toNat + 1) = y := by
  have hx : 0 ≤ x ∧ x < 256 := by have := h.1; omega
  have hy : 0 ≤ y ∧ y < 256 := by have := h.2.1; omega
  have hp := at_put2 (A := b) h0 h1 hx hy
  have p1 : at_ (put2 b off x y) off.toNat = x := by rw [hp, if_pos rfl]
  have p2 : at_ (put2 b off x y) (off.toNat + 1) = y := by rw [hp, if_neg (by omega), if_pos rfl]
  refine ⟨?_, p1, p2⟩
  have hoff : ((off.toNat : Nat) : Int) = off := Int.toNat_of_nonneg h0
  have hs := put2_size b off x y
  rw [flRes_iff rfl h0 h1] at h
  rw [flRes_iff (L := b.size) hs h0 (by rw [hs]; exact h1), p1, p2]
  have e0 : s0 (put2 b off x y) b.size = s0 b b.size + (x - at_ b off.toNat) + (y - at_ b (off.toNat + 1)) := by
    have := sm_diff (f := at_ (put2 b off x y)) (g := at_ b) (off := off.toNat) (L := b.size) (fun i a c => by rw [hp, if_neg a, if_neg c]) (by omega)
    rw [p1, p2] at this
    exact this
  have e1 : s1 (put2 b off x y) b.size = s1 b b.size + off * (x - at_ b off.toNat) + (off + 1) * (y - at_ b (off.toNat + 1)) := by
    have := sm_diff (f := fun i => (i : Int) * at_ (put2 b off x y) i) (g := fun i => (i : Int) * at_ b i) (off := off.toNat) (L := b.size) (fun i a c => by rw [hp, if_neg a, if_neg c]) (by omega)
    have e2 : ((off.toNat + 1 : Nat) : Int) = off + 1 := by omega
    rw [p1, p2, e2, hoff] at this
    show sm (fun i => (i : Int) * at_ (put2 b off x y) i) b.size = sm (fun i => (i : Int) * at_ b i) b.size + _ + _
    rw [this, Int.mul_sub, Int.mul_sub]
  rw [e0, e1]
  refine ⟨h.1, h.2.1, ?_, ?_⟩
  · have := h.2.2.1
    simp only [Int.mul_add, Int.mul_sub, Int.add_mul, Int.one_mul] at this ⊢
    omega
  · have := h.2.2.2
    omega
theorem flRes_uniq {z : Array UInt8} {off x y x' y' : Int} (h : FlRes z off x y) (h' : FlRes z off x' y') : x' = x ∧ y' = y := by
  obtain ⟨a1, a2, a3, a4⟩ := h
  obtain ⟨b1, b2, b3, b4⟩ := h'
  have ex := uniq a1 b1 a3 b3
  exact ⟨ex, uniq (t := -(c0 z z.size + x)) a2 b2 (by omega) (by omega)⟩
theorem extract_append {A B : Array UInt8} {k : Nat} (h : A.size = k) : (A ++ B).extract 0 k = A := by
  subst h
  simp
/-- unhurt, Fletcher's octets are read again -/
theorem pl_fl {b p r d : Array UInt8} {sz pl x y : Int} (hb : b.size = sz.toNat) (hsz : 4 ≤ sz ∧ sz ≤ 23) (hpl : 0 ≤ pl ∧ pl + 1 < sz) (h : FlRes (zeroed b pl) pl x y) (hp : put2 b pl x y ++ r ++ d = p) :
    p.extract 0 sz.toNat = put2 b pl x y ∧ at_ p pl.toNat = x ∧ at_ p (pl + 1).toNat = y := by
  have hs : (put2 b pl x y).size = sz.toNat := by rw [put2_size, hb]
  have e : (pl + 1).toNat = pl.toNat + 1 := by omega
  obtain ⟨_, o1, o2⟩ := own hpl.1 (by omega) h
  subst hp
  rw [e]
  refine ⟨?_, ?_, ?_⟩
  · rw [Array.append_assoc]; exact extract_append hs
  · rw [Array.append_assoc, at_append_left (by omega), o1]
  · rw [Array.append_assoc, at_append_left (by omega), o2]
theorem hfl {b p r d : Array UInt8} {sz pl x y : Int} (hb : b.size = sz.toNat) (hsz : 4 ≤ sz ∧ sz ≤ 23) (hpl : 0 ≤ pl ∧ pl + 1 < sz) (h : FlRes (zeroed b pl) pl x y) (hp : put2 b pl x y ++ r ++ d = p) :
    ∀ x' y', FlRes (zeroed (p.extract 0 sz.toNat) pl) pl x' y' → x' = at_ p pl.toNat ∧ y' = at_ p (pl + 1).toNat := by
  obtain ⟨e1, e2, e3⟩ := pl_fl hb hsz hpl h hp
  intro x' y' h'
  rw [e1] at h'
  rw [e2, e3]
  exact flRes_uniq (own hpl.1 (by omega) h).1 h'
theorem bi_at {A : Array UInt8} (k : Nat) : (bi A).getD k 0 = at_ A k := at_eq A k
theorem rk_zero (n : Nat) (f : Int → Int) : (List.map f (rangeKs 0 n)).sum = sm (fun i => f (i : Int)) n := by
  unfold rangeKs sm
  rw [List.map_map]
  congr 1
  apply List.map_congr_left
  intro i _
  simp
theorem rk_getD (n : Nat) (f : Int → Int) {i : Nat} (hi : i < n) : (List.map f (rangeKs 0 n)).getD i 0 = f (i : Int) := by
  unfold rangeKs
  rw [List.map_map, List.getD_eq_getElem?_getD, List.getElem?_map, List.getElem?_range hi]
  simp
theorem difs_sum (q p : Array UInt8) (sz : Int) : (difs q p sz).sum = s0 q sz.toNat - s0 p sz.toNat := by
  unfold difs
  rw [rk_zero, Int.sub_zero]
  have e : sm (fun i : Nat => (bi q).getD (i : Int).toNat 0 - (KBw.bInts p).getD (i : Int).toNat 0) sz.toNat = sm (fun i => at_ q i - at_ p i) sz.toNat := by
    apply sm_congr
    intro i _
    show (bi q).getD i 0 - (bi p).getD i 0 = _
    rw [bi_at, bi_at]
  exact e.trans (sm_sub _)
theorem difw_sum (q p : Array UInt8) (sz : Int) : (difw (difs q p sz) sz).sum = s1 q sz.toNat - s1 p sz.toNat := by
  unfold difw
  rw [rk_zero, Int.sub_zero]
  have e : sm (fun i : Nat => (i : Int) * (difs q p sz).getD (i : Int).toNat 0) sz.toNat = sm (fun i => (i : Int) * at_ q i - (i : Int) * at_ p i) sz.toNat := by
    apply sm_congr
    intro i hi
    have : (difs q p sz).getD i 0 = at_ q i - at_ p i := by
      unfold difs
      rw [Int.sub_zero, rk_getD _ _ hi]
      show (bi q).getD i 0 - (bi p).getD i 0 = _
      rw [bi_at, bi_at]
    show (i : Int) * (difs q p sz).getD i 0 = _
    rw [this, Int.mul_sub]
  exact e.trans (sm_sub (f := fun i => (i : Int) * at_ q i) (g := fun i => (i : Int) * at_ p i) _)
theorem head_at {q : Array UInt8} {L i : Nat} (h : i < L) (hL : L ≤ q.size) : at_ (q.extract 0 L) i = at_ q i := by
  rw [at_extract (by omega) hL, Nat.zero_add]
theorem head_s0 {q : Array UInt8} {L : Nat} (hL : L ≤ q.size) : s0 (q.extract 0 L) L = s0 q L := sm_congr fun i hi => head_at hi hL
theorem head_s1 {q : Array UInt8} {L : Nat} (hL : L ≤ q.size) : s1 (q.extract 0 L) L = s1 q L := sm_congr fun i hi => by rw [head_at hi hL]
theorem flRes_head {q : Array UInt8} {sz off x y : Int} (hq : sz.toNat ≤ q.size) (h0 : 0 ≤ off) (h1 : off + 1 < sz) :
    FlRes (zeroed (q.extract 0 sz.toNat) off) off x y ↔ (1 ≤ x ∧ x ≤ 255) ∧ (1 ≤ y ∧ y ≤ 255) ∧
      (s1 q sz.toNat - (off + 1) * s0 q sz.toNat + at_ q off.toNat - x) % 255 = 0 ∧ (s0 q sz.toNat - at_ q off.toNat - at_ q (off.toNat + 1) + x + y) % 255 = 0 := by
  have hs : (q.extract 0 sz.toNat).size = sz.toNat := by rw [Array.size_extract]; omega
  rw [flRes_iff hs h0 (by omega), head_s0 hq, head_s1 hq, head_at (by omega) hq, head_at (by omega) hq]
theorem mul255 {a b : Int} (h : b % 255 = 0) : (a * b) % 255 = 0 := by
  rw [Int.mul_emod, h, Int.mul_zero]; rfl
/-- hurt, Fletcher's octets hold just if .. -/
theorem hfin {q p : Array UInt8} {sz pl : Int} {hv hb : Bool} (hsz : 4 ≤ sz ∧ sz ≤ 23) (hpl : 0 ≤ pl ∧ pl + 1 < sz) (hp : sz.toNat ≤ p.size) (hq : sz.toNat ≤ q.size)
    (hP : FlRes (zeroed (p.extract 0 sz.toNat) pl) pl (at_ p pl.toNat) (at_ p (pl + 1).toNat))
    (h1 : hv = true ↔ (difs q p sz).sum % 255 = 0 ∧ (difw (difs q p sz) sz).sum % 255 = 0)
    (h2 : hb = true ↔ hv = true ∧ 0 < at_ q pl.toNat ∧ 0 < at_ q (pl + 1).toNat) :
    ∀ x y, FlRes (zeroed (q.extract 0 sz.toNat) pl) pl x y → ((256 * x + y = at_ q pl.toNat * 256 + at_ q (pl + 1).toNat) ↔ hb = true) := by
  intro x y hx
  have e : (pl + 1).toNat = pl.toNat + 1 := by omega
  rw [e] at hP h2 ⊢
  rw [flRes_head hp hpl.1 hpl.2] at hP
  rw [flRes_head hq hpl.1 hpl.2] at hx
  rw [h2, h1, difs_sum, difw_sum]
  have bu := at_bound q pl.toNat
  have bv := at_bound q (pl.toNat + 1)
  generalize at_ q pl.toNat = u at *
  generalize at_ q (pl.toNat + 1) = v at *
  generalize at_ p pl.toNat = u' at *
  generalize at_ p (pl.toNat + 1) = v' at *
  generalize s0 q sz.toNat = S at *
  generalize s1 q sz.toNat = W at *
  generalize s0 p sz.toNat = S' at *
  generalize s1 p sz.toNat = W' at *
  obtain ⟨x1, y1, x3, x4⟩ := hx
  obtain ⟨p1, p2, p3, p4⟩ := hP
  have g0 : S' % 255 = 0 := by omega
  have g1 : ((pl + 1) * S') % 255 = 0 := mul255 g0
  have g2 : W' % 255 = 0 := by omega
  have hxy : 256 * x + y = u * 256 + v ↔ x = u ∧ y = v := by omega
  rw [hxy]
  constructor
  · rintro ⟨rfl, rfl⟩
    have k0 : S % 255 = 0 := by omega
    have k1 : ((pl + 1) * S) % 255 = 0 := mul255 k0
    refine ⟨⟨by omega, by omega⟩, by omega, by omega⟩
  · rintro ⟨⟨d1, d2⟩, d3, d4⟩
    have k0 : S % 255 = 0 := by omega
    have k1 : ((pl + 1) * S) % 255 = 0 := mul255 k0
    have ex : x = u := by omega
    exact ⟨ex, by omega⟩
end Pl
end Mine
end

/-! part Pl3 -/
section
open PySem PySem.W PyProof.Rows PySem.Calls PyProof.V PySem.Spec PySem.Builtin
set_option maxRecDepth 100000
set_option maxHeartbeats 4000000
namespace Mine
namespace Pl
open Ba
theorem ckv_form {S : Int} (h0 : 0 ≤ S) (h1 : S ≤ 65535 * 13) : ∃ x, 0 ≤ x ∧ x ≤ 65535 ∧ ckv S = (x % 256) * 256 + x / 256 % 256 ∧
    ((S % 65536 + S / 65536 < 65536 ∧ x = 65535 - (S % 65536 + S / 65536)) ∨ (65536 ≤ S % 65536 + S / 65536 ∧ x = 131070 - (S % 65536 + S / 65536))) := by
  refine ⟨(-(S % 65536 + S / 65536 + (S % 65536 + S / 65536) / 65536) - 1) % 65536, by omega, by omega, rfl, ?_⟩
  have hs : 0 ≤ S % 65536 + S / 65536 ∧ S % 65536 + S / 65536 ≤ 65547 := by omega
  generalize S % 65536 + S / 65536 = s1 at *
  by_cases h : s1 < 65536
  · left
    have e : s1 / 65536 = 0 := by omega
    rw [e]
    omega
  · right
    have e : s1 / 65536 = 1 := by omega
    rw [e]
    omega
theorem ckv_zero {T : Int} (h0 : 0 ≤ T) (h1 : T ≤ 65535 * 13) : ckv T = 0 ↔ 0 < T ∧ T % 65535 = 0 := by
  obtain ⟨x, x0, x1, e, hx⟩ := ckv_form h0 h1
  rw [e]
  have hz : (x % 256) * 256 + x / 256 % 256 = 0 ↔ x = 0 := by omega
  rw [hz]
  clear hz e
  have hT : T = 65536 * (T / 65536) + T % 65536 := by omega
  have hb : 0 ≤ T / 65536 ∧ T / 65536 ≤ 12 := by omega
  have ha : 0 ≤ T % 65536 ∧ T % 65536 ≤ 65535 := by omega
  generalize T / 65536 = b at *
  generalize T % 65536 = a at *
  omega
/-- what the checksum adds to the sum -/
theorem ckv_adds {S : Int} (h0 : 0 ≤ S) (h1 : S ≤ 65535 * 12) :
    0 < S + (ckv S / 256 % 256 + 256 * (ckv S % 256)) ∧ (S + (ckv S / 256 % 256 + 256 * (ckv S % 256))) % 65535 = 0 ∧ S + (ckv S / 256 % 256 + 256 * (ckv S % 256)) ≤ 65535 * 13 := by
  obtain ⟨x, x0, x1, e, hx⟩ := ckv_form h0 (by omega)
  have hz : ckv S / 256 % 256 + 256 * (ckv S % 256) = x := by
    rw [e]
    have hh : x / 256 % 256 = x / 256 := by omega
    rw [hh]
    have k1 : x = 256 * (x / 256) + x % 256 := by omega
    have k2 : 0 ≤ x / 256 ∧ x / 256 ≤ 255 := by omega
    have k3 : 0 ≤ x % 256 ∧ x % 256 ≤ 255 := by omega
    clear hx e hh x1 x0
    generalize x / 256 = h at *
    generalize x % 256 = l at *
    have k4 : (l * 256 + h) / 256 = l := by omega
    have k5 : (l * 256 + h) % 256 = h := by omega
    rw [k4, k5]
    omega
  rw [hz]
  clear hz e
  have hT : S = 65536 * (S / 65536) + S % 65536 := by omega
  have hb : 0 ≤ S / 65536 ∧ S / 65536 ≤ 12 := by omega
  have ha : 0 ≤ S % 65536 ∧ S % 65536 ≤ 65535 := by omega
  generalize S / 65536 = b at *
  generalize S % 65536 = a at *
  omega
theorem leSum_congr {p q : Array UInt8} : ∀ n : Nat, (∀ i, i < 2 * n → at_ p i = at_ q i) → leSum p n = leSum q n
  | 0, _ => rfl
  | n + 1, h => by
    rw [leSum_succ, leSum_succ, leSum_congr n fun i hi => h i (by omega), h (2 * n) (by omega), h (2 * n + 1) (by omega)]
/-- unhurt, the checksum is 0 -/
theorem pl_ck {b7 d p : Array UInt8} {n : Nat} (hb : b7.size = 2 * n) (hn : n ≤ 12) (hd : KBw.bInts d = (KTBy.little 2 (ckv (leSum b7 n))).reverse) (hp : b7 ++ d = p) : ckv (leSum p (n + 1)) = 0 := by
  subst hp
  have hS := leSum_bound b7 n
  have d0 : at_ d 0 = ckv (leSum b7 n) / 256 % 256 := by
    rw [← at_eq]
    show (KBw.bInts d).getD 0 0 = _
    rw [hd, KTBy.little_eq]
    simp [List.range_succ]
  have d1 : at_ d 1 = ckv (leSum b7 n) % 256 := by
    rw [← at_eq]
    show (KBw.bInts d).getD 1 0 = _
    rw [hd, KTBy.little_eq]
    simp [List.range_succ]
  have e : leSum (b7 ++ d) (n + 1) = leSum b7 n + (ckv (leSum b7 n) / 256 % 256 + 256 * (ckv (leSum b7 n) % 256)) := by
    rw [leSum_succ, leSum_congr n fun i hi => at_append_left (A := b7) (B := d) (by omega), at_append_right (by omega), at_append_right (by omega), hb, Nat.sub_self, show 2 * n + 1 - 2 * n = 1 by omega, d0, d1]
  have hS2 : leSum b7 n ≤ 65535 * 12 := by omega
  have k := ckv_adds hS.1 hS2
  rw [e]
  exact (ckv_zero (by omega) k.2.2).mpr ⟨k.1, k.2.1⟩
theorem val_append (l : List Int) (a b : Int) : KFB.value (l ++ [a, b]) = KFB.value l * 65536 + a * 256 + b := by
  unfold KFB.value
  rw [List.foldl_append]
  show (List.foldl (fun a k => a * 256 + k) 0 l * 256 + a) * 256 + b = _
  generalize List.foldl (fun a k => a * 256 + k) 0 l = v
  omega
theorem take_two {q : Array UInt8} {k : Nat} (h : 2 * k + 1 < q.size) : (KBw.bInts q).take (2 * (k + 1)) = (KBw.bInts q).take (2 * k) ++ [at_ q (2 * k), at_ q (2 * k + 1)] := by
  have hl : (KBw.bInts q).length = q.size := KBw.ints_length q
  have g : ∀ i, i < q.size → (KBw.bInts q)[i]? = some (at_ q i) := fun i hi => by
    rw [← at_eq]
    show (KBw.bInts q)[i]? = some ((KBw.bInts q).getD i 0)
    rw [List.getD_eq_getElem?_getD, List.getElem?_eq_getElem (by omega)]
    rfl
  rw [show 2 * (k + 1) = 2 * k + 1 + 1 by omega, List.take_add_one, List.take_add_one, g (2 * k) (by omega), g (2 * k + 1) h]
  simp
theorem joint {q : Array UInt8} : ∀ k : Nat, 2 * k ≤ q.size → (leSum q k - 256 * KFB.value ((KBw.bInts q).take (2 * k))) % 65535 = 0 ∧ (leSum q k = 0 ↔ KFB.value ((KBw.bInts q).take (2 * k)) = 0) ∧ 0 ≤ KFB.value ((KBw.bInts q).take (2 * k))
  | 0, _ => by simp [leSum, KFB.value]
  | k + 1, h => by
    obtain ⟨i1, i2, i3⟩ := joint (q := q) k (by omega)
    have hS := leSum_bound q k
    have a1 := at_bound q (2 * k)
    have a2 := at_bound q (2 * k + 1)
    rw [take_two (by omega), val_append, leSum_succ]
    generalize KFB.value ((KBw.bInts q).take (2 * k)) = V at *
    generalize leSum q k = S at *
    generalize at_ q (2 * k) = u at *
    generalize at_ q (2 * k + 1) = v at *
    refine ⟨by omega, by omega, by omega⟩
/-- hurt, the checksum is 0 just if .. -/
theorem pl_num {q : Array UInt8} {n : Nat} (hq : q.size = 2 * n ∧ q.size ≤ 26) : ckv (leSum q n) = 0 ↔ 0 < KFB.value (KBw.bInts q) ∧ KFB.value (KBw.bInts q) % 65535 = 0 := by
  obtain ⟨i1, i2, i3⟩ := joint (q := q) n (by omega)
  have hS := leSum_bound q n
  have ht : (KBw.bInts q).take (2 * n) = KBw.bInts q := by
    rw [← hq.1, ← KBw.ints_length]; exact List.take_length
  rw [ht] at i1 i2 i3
  rw [ckv_zero hS.1 (by omega)]
  generalize KFB.value (KBw.bInts q) = V at *
  generalize leSum q n = S at *
  omega
end Pl
end Mine
end

/-! part Tail -/
section
open PySem PySem.W PyProof.Rows PySem.Calls PyProof.V PySem.Spec PySem.Builtin
set_option maxRecDepth 100000
set_option maxHeartbeats 4000000
namespace Mine
theorem News.of6 {h₀ h : Heap} {L : Addr} {a b c d e f : Addr × Obj} (N : News h₀ L h [a, b, c, d, e, f]) : News h₀ L h [b, e, c, d, a, f] := by
  intro p hp
  refine N p ?_
  simp only [List.mem_cons, List.not_mem_nil, or_false] at hp ⊢
  rcases hp with h | h | h | h | h | h <;> simp [h]
theorem apart5 {L NL WL PA : Addr} {ot ow op ol o : Obj} (l : NL < PA ∧ L + 1 + 1 + 1 < PA ∧ L + 1 + 1 < PA ∧ L + 1 < PA) (l2 : PA < WL) : ∀ p ∈ [(L + 1, op), (L + 1 + 1 + 1, ot), (L + 1 + 1, ow), (WL, ol), (NL, o)], p.1 ≠ PA := by
  intro p hp
  simp only [List.mem_cons, List.not_mem_nil, or_false] at hp
  rcases hp with rfl | rfl | rfl | rfl | rfl
  · exact Nat.ne_of_lt l.2.2.2
  · exact Nat.ne_of_lt l.2.1
  · exact Nat.ne_of_lt l.2.2.1
  · exact Nat.ne_of_gt l2
  · exact Nat.ne_of_lt l.1
theorem law_tail {w : World} {h₀ : Heap} {L fa NL : Addr} {cd : Value} {s : Shared} {mg mb : Str → Option Value} {nn : List Int} {vs : List Value} {sz pl : Int} {ts tp : Tok} {rest : Str → Option Value} {ot ow op : Obj}
    {R : Flow → Shared → Prop} (X : (hd.heap_39 w.params).In h₀) (T : TopRead hd.view_39 [] mg mb h₀) (hL : L = h₀.objs.size)
    (F : Fr h₀ L s.heap (lm (.ref NL) (.int sz ts) (.int pl tp) rest)) (N : News h₀ L s.heap [(L + 1 + 1 + 1, ot), (L + 1 + 1, ow), (L + 1, op), (NL, W.listOf vs.toArray 0)])
    (hot : ot.data = .cell none) (how : ow.data = .cell none) (hop : op.data = .cell none) (hv : IntsAre vs nn) (hnn : nn.length = 36) (hsz : 4 ≤ sz ∧ sz ≤ 23) (hpl : 0 ≤ pl ∧ pl + 1 < sz)
    (fin : ∀ (h' : Heap) (tk : Nat) (m' : Str → Option Value), Fr h₀ L h' m' → R (.ret (.bool true)) { s with heap := h', toks := tk }) :
    wpC (M w) (callerA.deeper (E31 L fa cd)) (execs ((bodyOf 31).drop 4) (E31 L fa cd)) R (fun _ _ => False) s := by
  refine ph4 X T hL F N hot how hop hv hnn hsz ?_
  intro h1 tk1 op1 PA b rest1 hbs F1 N1 hot1 how1 hop1 l1
  refine ph5 X T F1 N1 hot1 how1 hop1 l1 hbs hsz hpl ?_
  intro h2 tk2 rest2 x y hxy F2 N2
  refine ph7 X T F2 N2 hot1 how1 hop1 l1 ((Ba.put2_size b pl x y).trans hbs) hsz hpl ?_
  intro h3 tk3 op3 ow3 p d n ws WL PC c hn hps hd hpe hws F3 N3 hot3 how3 hop3 l3 l4
  have hps2 : sz + 2 ≤ p.size ∧ p.size ≤ 26 ∧ p.size % 2 = 0 := by omega
  refine ph10 X T F3 (News.of6 N3) hop3 (apart5 l3 l4.1) hv hnn hsz hps2 ?_
  intro h4 tk4 rest4 q hqs F4 N4
  have hb7 : (Ba.put2 b pl x y ++ Array.replicate (sz % 2).toNat (0 : UInt8)).size = 2 * n := by
    rw [Array.size_append, Array.size_replicate, Ba.put2_size, hbs]; omega
  obtain ⟨e1, e2, e3⟩ := Pl.pl_fl hbs hsz hpl hxy hpe
  refine ph11 X T F4 N4 hop3 how3 hws hsz (n := n + 1) ⟨hps, hps2.1, hps2.2.1⟩ hpl (Pl.hfl hbs hsz hpl hxy hpe) (Pl.pl_ck hb7 (by omega) hd hpe) ?_
  intro h5 tk5 F5 N5
  refine ph12 X T F5 N5 hop3 (n := n + 1) ⟨by omega, by omega⟩ (Pl.pl_num ⟨by omega, by omega⟩) ?_
  intro h6 tk6 rest6 F6 N6
  refine ph14 X T F6 N6 hop3 how3 hot3 hws hsz hqs.symm (n := n + 1) ⟨by omega, by omega, by omega⟩ ?_
  intro h7 tk7 hv7 ot7 hi7 F7 N7
  refine ph16 X T F7 N7 hop3 hsz (n := n + 1) ⟨by omega, by omega, by omega⟩ hpl ?_
  intro h8 tk8 rest8 hb8 hi8 F8 N8
  refine ph17 X T F8 N8 hop3 hsz (n := n + 1) ⟨by omega, by omega, by omega⟩ hpl (Pl.hfin hsz hpl (by omega) (by omega) ?_ hi7 hi8) ?_
  · rw [e1, e2, e3]
    exact (Pl.own hpl.1 (by omega) hxy).1
  · intro h9 tk9 m9 F9
    exact fin h9 tk9 m9 F9
end Mine
end

/-! part W2 -/
section
open PySem PySem.W PyProof.Rows PySem.Calls PyProof.V PySem.Spec PySem.Builtin
set_option maxRecDepth 100000
set_option maxHeartbeats 4000000
namespace Mine
theorem nums_len (w : List Int) (f : Int → Int) : (List.take 36 w ++ List.map f (rangeKs ((List.take 36 w).length : Int) (36 - ((List.take 36 w).length : Int)).toNat)).length = 36 := by
  rw [List.length_append, List.length_map, rangeKs_length, List.length_take]
  omega
theorem lm_start {nv sv pv : Value} {r : Str → Option Value} :
    (fun y => if y = Str.ofString "place" then some pv else if y = Str.ofString "size" then some sv else if y = Str.ofString "numbers" then some nv else r y) = lm nv sv pv r := by
  funext y
  unfold lm
  by_cases e1 : y = Str.ofString "place"
  · subst e1; rw [if_pos rfl, if_neg (by decide), if_pos rfl]
  · simp only [if_neg e1]
theorem Fr.ofStart {h₀ h : Heap} {L : Addr} {nv sv pv : Value} {r : Str → Option Value}
    (F : Fr h₀ L h (fun y => if y = Str.ofString "place" then some pv else if y = Str.ofString "size" then some sv else if y = Str.ofString "numbers" then some nv else r y)) : Fr h₀ L h (lm nv sv pv r) := by
  rw [← lm_start]; exact F
theorem News.of4 {h₀ h : Heap} {L : Addr} {a b c d e f : Addr × Obj} (N : News h₀ L h [a, b, c, d, e, f]) : News h₀ L h [d, e, f, a] := by
  intro p hp
  refine N p ?_
  simp only [List.mem_cons, List.not_mem_nil, or_false] at hp ⊢
  rcases hp with h | h | h | h <;> simp [h]
theorem law_walk : PySem.Challenge.rw_bi0009_01.Holds := by
  refine hd ?_
  k_fill
  intro w s₀ s₁ mg mb G Y fa o pm cd doc dV kV ho hd hcd hD hmg hg args vals as hpre hlay hrd hwl hlo
  have KX := kIn_of Y
  have X := (Ground.X G).1
  refine Ground.open G ?_
  intro T B D TE TW
  wrow_args hpre hlay hrd hwl hlo
  refine enter_C ?_
  w_top on
  have he := Dflts.none hD rfl; subst he; have he := Dflts.noKw hD; subst he
  refine call_cellsN_C (by decide) ho (fd_plain hd) (Top.nolimit T) hcd rfl (kinds_of (by kinds_ok)) (by decide) fun h₁ tk₁ cells F N0 X0 => ?_
  cells_open X0
  rename_i c1 c2 c3 d1 d2 d3
  have hot : c1.data = .cell none := d1
  have how : c2.data = .cell none := d2
  have hop : c3.data = .cell none := d3
  clear d1 d2 d3
  have TR := topRead_of T
  clear G Y ho hcd hmg hd hD X B D TE TW X0 T
  refine wpC_execs_cons (wpC_of ?_); k_fold; k_steps
  refine wpC_execs_cons (wpC_of ?_); k_steps
  rename_i NL vs hx2 hI lN h2 F2 N2
  obtain ⟨nn, hv, hnn⟩ : ∃ nn : List Int, IntsAre vs nn ∧ nn.length = 36 := ⟨_, hI, nums_len _ _⟩
  clear hI
  refine wpC_execs_cons (wpC_of ?_); k_steps
  rename_i F3 N3
  have h20 : 0 ≤ (nn.getD (Int.toNat 0) 0).fmod 20 ∧ (nn.getD (Int.toNat 0) 0).fmod 20 < 20 := ⟨fm0 (by decide), fm1 (by decide) (by decide)⟩
  generalize (nn.getD (Int.toNat 0) 0).fmod 20 = z at F3 h20
  obtain ⟨sz, hsz0⟩ : ∃ sz, sz = 4 + z := ⟨_, rfl⟩
  rw [← hsz0] at F3
  have hsz : 4 ≤ sz ∧ sz ≤ 23 := by omega
  clear hsz0 h20
  refine wpC_execs_cons (wpC_of ?_); k_steps
  rename_i F4 N4
  have hpl0 : 0 ≤ (nn.getD (Int.toNat 1) 0).fmod (sz - 1) ∧ (nn.getD (Int.toNat 1) 0).fmod (sz - 1) < sz - 1 := ⟨fm0 (by omega), fm1 (by omega) (Int.le_refl _)⟩
  refine law_tail KX TR rfl (Fr.ofStart F4) (News.of4 N4) hot how hop hv hnn hsz ⟨hpl0.1, by omega⟩ ?_
  intro h9 tk9 m9 F9
  exact ⟨.inl ⟨_, _, [], rfl, fun _ => rfl, ReadsW.bool true, by first | rfl | wrow_post, fun _ => ⟨List.nodup_nil, fun _ hm => nomatch hm⟩⟩, .of_keep F9.keep, rfl, .of_eq hg⟩
end Mine
end

theorem PySem.Challenge.cw_bi0009_01_holds : PySem.Challenge.rw_bi0009_01.Holds := by
  exact Mine.law_walk
