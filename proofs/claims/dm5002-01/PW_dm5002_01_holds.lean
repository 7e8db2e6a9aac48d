import PyProof.Rows.All
import Wide.All
import OpenK.AllK
import Wide.FinOn
import PyProof.StrLawsReplace
import PyProof.ToksMono
import Lean
import PySem.Challenge.RW_dm5002_01
set_option Elab.async false
set_option maxRecDepth 100000
set_option maxHeartbeats 8000000
set_option linter.unusedSimpArgs false
section PartY1
open PySem PySem.W PyProof.Rows PySem.Calls
set_option maxRecDepth 100000
set_option maxHeartbeats 4000000
namespace Mine
/-! ## walks under the claim's caller: as wpAny, where the caller stands in the stack -/
def Led (l : List (Code × Pos)) : Prop := ∃ x ∈ l, x.1.isCaller = true
theorem Led.cons {x : Code × Pos} {l : List (Code × Pos)} (h : Led l) : Led (x :: l) := let ⟨y, hy, e⟩ := h; ⟨y, .tail _ hy, e⟩
def wpP {α : Type} (M : Model) (A : Around) (t : Sem α) (Q : α → Shared → Prop) (E : Value → Shared → Prop) (s : Shared) : Prop :=
  ∀ Γ p, Γ.In A → Led ((Γ.code, p) :: Γ.below) → Sem.wp M Γ t (fun a _ s' => Q a s') (fun e _ s' => E e s') p s
def codeP (M : Model) (A : Around) (c : Code) (R : Result → Shared → Prop) (s : Shared) : Prop :=
  ∀ Γ p, Γ.code = c → Γ.Below A → Led Γ.below → wpCode M Γ R p s
theorem Led.pos {c : Code} {p p' : Pos} {l : List (Code × Pos)} (h : Led ((c, p) :: l)) : Led ((c, p') :: l) := by
  obtain ⟨y, hy, e⟩ := h
  rcases List.mem_cons.mp hy with rfl | hy
  · exact ⟨_, .head _, e⟩
  · exact ⟨y, .tail _ hy, e⟩
section
variable {α β : Type} {M : Model} {A : Around} {E : Value → Shared → Prop} {s : Shared}
theorem wpP_of {t : Sem α} {Q : α → Shared → Prop} (h : wpAny M A t Q E s) : wpP M A t Q E s := fun Γ p hΓ _ => h Γ p hΓ
theorem codeP_of {c : Code} {R : Result → Shared → Prop} (h : codeAny M A c R s) : codeP M A c R s := fun Γ p hc hΓ _ => h Γ p hc hΓ
theorem wpP_pure {a : α} {Q : α → Shared → Prop} (h : Q a s) : wpP M A (pure a) Q E s := wpP_of (wpAny_pure h)
theorem wpP_mono {t : Sem α} {Q Q' : α → Shared → Prop} {E' : Value → Shared → Prop} (h : wpP M A t Q E s) (hQ : ∀ a s, Q a s → Q' a s) (hE : ∀ e s, E e s → E' e s) : wpP M A t Q' E' s :=
  fun Γ p hΓ hL => Sem.wp_mono M Γ t (fun a _ s => hQ a s) (fun e _ s => hE e s) p s (h Γ p hΓ hL)
theorem wpP_bind {m : Sem α} {f : α → Sem β} {Q : β → Shared → Prop} (h : wpP M A m (fun a s' => wpP M A (f a) Q E s') E s) : wpP M A (m >>= f) Q E s := fun Γ p hΓ hL => by
  rw [Sem.wp_bind']
  exact Sem.wp_mono M Γ m (fun a p' s' h' => h' Γ p' hΓ hL.pos) (fun _ _ _ h' => h') p s (h Γ p hΓ hL)
theorem wpP_bindA {m : Sem α} {f : α → Sem β} {Q : β → Shared → Prop} (h : wpAny M A m (fun a s' => wpP M A (f a) Q E s') E s) : wpP M A (m >>= f) Q E s := wpP_bind (wpP_of h)
theorem wpP_onRaise {m : Sem α} {k : Value → Sem Unit} {Q : α → Shared → Prop} (h : wpP M A m Q (fun e s' => wpAny M A (k e) (fun _ s'' => E e s'') E s') s) : wpP M A (m.onRaise k) Q E s := fun Γ p hΓ hL => by
  rw [Sem.wp_onRaise]
  exact Sem.wp_mono M Γ m (fun _ _ _ h' => h') (fun e p' s' h' => h' Γ p' hΓ) p s (h Γ p hΓ hL)
theorem wpP_tryCatch {m : Sem α} {k : Value → Sem α} {Q : α → Shared → Prop} (h : wpP M A m Q (fun e s' => wpAny M A (k e) Q E s') s) : wpP M A (tryCatch m k) Q E s := fun Γ p hΓ hL => by
  rw [Sem.wp_tryCatch']
  exact Sem.wp_mono M Γ m (fun _ _ _ h' => h') (fun e p' s' h' => h' Γ p' hΓ) p s (h Γ p hΓ hL)
theorem wpP_holding {vs : List Value} {m : Sem α} {Q : α → Shared → Prop} (h : wpP M A m Q E s) : wpP M A (holding vs m) Q E s :=
  fun Γ p hΓ hL => by rw [Sem.wp_holding]; exact h Γ p hΓ hL
theorem wpP_attempt {m : Sem α} {Q : Except Value α → Shared → Prop} (h : wpP M A m (fun a => Q (.ok a)) (fun e => Q (.error e)) s) : wpP M A m.attempt Q E s :=
  fun Γ p hΓ hL => by rw [Sem.wp_attempt]; exact h Γ p hΓ hL
theorem wpP_runValue {c : Code} {Q : Value → Shared → Prop} (hc : codeP M A c (fun r s' => match r with | .ok (.ret v) => Q v s' | .ok _ => False | .error e => E e s') s) : wpP M A (runValue c) Q E s :=
  fun Γ p hΓ hL => by rw [Sem.wp_runValue]; exact hc _ p rfl (hΓ.enter c none p (by intro x; cases x)) hL
theorem wpP_call {f : Value} {pos : List Value} {kw : List (Str × Value)} {Q : Value → Shared → Prop}
    (hc : codeP M A (.call f ⟨pos, kw⟩) (fun r s' => match r with | .ok (.ret v) => Q v s' | .ok _ => False | .error e => E e s') s) : wpP M A (call f pos kw) Q E s := wpP_runValue hc
theorem wpP_run {c : Code} {h : Option Value} {Q : Flow → Shared → Prop} (hc : codeP M (A.mark h) c (fun r s' => match r with | .ok f => Q f s' | .error e => E e s') s) (hnb : h ≠ some byPass := by intro x; cases x) : wpP M A (run c h) Q E s :=
  fun Γ p hΓ hL => by rw [Sem.wp_run]; exact hc _ p rfl (hΓ.enter c h p hnb) hL
theorem codeP_of_tree {c : Code} {R : Result → Shared → Prop}
    (h : wpP M (A.under c) (M.den c) (fun fin s' => match fin with | .done f => R (.ok f) s' | .again c' => c'.quiet = true ∧ codeP M A c' R s') (fun e s' => R (.error e) s') s) : codeP M A c R s := fun Γ p hc hΓ hL => by
  rw [wpCode_iff_wp, hc]
  refine Sem.wp_mono M Γ _ (fun fin p' s' h' => ?_) (fun _ _ _ h' => h') p s (h Γ p (hc ▸ hΓ.in) hL.cons)
  cases fin with
  | done f => exact h'
  | again c' => exact ⟨h'.1, h'.2 (Γ.goto c') p' rfl (hΓ.goto c') hL⟩
/-- the claim's caller calls: its own frame is the witness -/
theorem led_caller : Led ((Code.builtin "claim.caller" {}, p) :: l) := ⟨_, .head _, rfl⟩
end
section
variable {prog : Program} {w : World} {A : Around} {E : Value → Shared → Prop} {s : Shared}
theorem codeP_func {R : Result → Shared → Prop} {body : List Stmt} {env : Env}
    (h : wpP (model prog w) (A.deeper env) (execs body env) (fun f s' => R (.ok (.ret (match f with | .ret v => v | _ => .none))) s')
      (fun e s' => wpAny (model prog w) (A.deeper env) (leaving env e) (fun _ s'' => R (.error e) s'') (fun e' s'' => R (.error e') s'') s') s) : codeP (model prog w) A (.func body env) R s := by
  refine codeP_of_tree ?_
  show wpP _ (A.deeper env) (do point; match ← (execs body env).onRaise (leaving env) with | .ret v => ret v | _ => ret .none) _ _ s
  refine wpP_bindA (wpAny_point (wpP_bind (wpP_onRaise (wpP_mono h (fun f s' h' => ?_) fun _ _ h' => h'))))
  cases f <;> exact wpP_pure h'
theorem codeP_call_def {R : Result → Shared → Prop} {a : Addr} {o : Obj} {fd : FuncData} {body : List Stmt} {args : Args} {binds : List (Str × Value)}
    (hroom : A.depth < recursionLimit) (ho : s.heap.get? a = some o) (hdata : o.data = .func fd) (hlim : s.heap.NoLimit) (hcd : s.heap.CodeRec fd.code fd.qualname)
    (hbody : fd.body = .stmts body) (hbind : BindsTo s fd args binds)
    (hcell : ∀ x ∈ fd.scope.names, x.2 ≠ .cell) (hloc : ∀ x ∈ binds, fd.scope.names.lookup x.1 = some .local)
    (h : ∀ h₀, h₀.Ns s.heap.objs.size (fun x => binds.reverse.lookup x) → (∀ b o, s.heap.get? b = some o → h₀.get? b = some o) →
      wpP (model prog w) (A.deeper (callEnv fd s.heap.objs.size a)) (execs body (callEnv fd s.heap.objs.size a)) (fun f s' => R (.ok (.ret (match f with | .ret v => v | _ => .none))) s')
        (fun e s' => wpAny (model prog w) (A.deeper (callEnv fd s.heap.objs.size a)) (leaving (callEnv fd s.heap.objs.size a) e) (fun _ s'' => R (.error e) s'') (fun e' s'' => R (.error e') s'') s')
        { s with heap := h₀, toks := s.toks + binds.length })
    (hco : fd.scope.isCoroutine = false := by rfl) (hgen : fd.scope.isGenerator = false := by rfl) (hk : fd.scope.kind = .function := by rfl) : codeP (model prog w) A (.call (.ref a) args) R s := by
  refine codeP_of_tree ?_
  show wpP _ A.in1 (callAny (.ref a) args) _ _ s
  simp only [callAny]
  refine wpP_bindA (wpAny_load ho ?_)
  obtain ⟨c, oc, vs, tq, hc, hoc, hdc, hq⟩ := hcd
  simp only [hdata, callFunction, hco, hgen, hbody, hc]
  refine wpP_bindA (m := field (.ref c) 1) (wpAny_field hoc hdc hq (wpP_bindA (wpAny_pure ?_)))
  refine wpP_bindA (hbind _ _ _ _ ?_)
  rw [← hc]
  refine wpP_bindA (wpAny_newFunctionEnv hcell hloc (fun h₀ hns₀ hsb₀ => ?_) hk)
  refine wpP_bindA (wpAny_enterFrame (hlim.fresh _ hsb₀) hroom (wpP_pure ⟨rfl, codeP_func (h h₀ hns₀ fun b o e => ?_)⟩))
  exact hsb₀.extBut b o (Nat.ne_of_lt (Heap.lt_size e)) (Heap.get?_push_of_some _ e)
end
end Mine
end PartY1
section PartY2
open PySem PySem.W PyProof.Rows PySem.Calls
set_option maxRecDepth 100000
set_option maxHeartbeats 4000000
namespace Mine
/-! ## the head: the caller's tree may look first whether the caller stands in the stack (it does) -/
def ledB (l : List (Code × Pos)) : Bool := l.any fun x => x.1.isCaller
theorem led_of {l : List (Code × Pos)} (h : ledB l = true) : Led l := List.any_eq_true.mp h
/-- looks at the stack: with the caller, t; without it, a value that the claim likes -/
def looked (t u : Sem α) : Sem α := .stack fun st => if ledB st then t else u
theorem wpAny_looked {α : Type} {M : Model} {A : Around} {E : Value → Shared → Prop} {s : Shared} {t u : Sem α} {Q : α → Shared → Prop} (h : wpP M A t Q E s) (h' : wpAny M A u Q E s) : wpAny M A (looked t u) Q E s := fun Γ p hΓ => by
  unfold looked
  rw [Sem.wp_stack]
  cases e : ledB ((Γ.code, p) :: Γ.below) with
  | true => rw [if_pos rfl]; exact h Γ p hΓ (led_of e)
  | false => rw [if_neg (by decide)]; exact h' Γ p hΓ
theorem sched_looked {prog : Program} {w : World} {s s' : Shared} {o : Outcome} {t u : Sem Fin} (hz : s.asleep) : ∀ {n : Nat},
    schedN (denote table) prog w n (.single s ⟨looked t u, .builtin "claim.caller" {}, default, []⟩) = .halted o s' → ∃ n, schedN (denote table) prog w n (.single s ⟨t, .builtin "claim.caller" {}, default, []⟩) = .halted o s'
  | 0, h => by cases h
  | n + 1, h => by
    have st : step (denote table) prog w s ⟨looked t u, .builtin "claim.caller" {}, default, []⟩ = .go s ⟨t, .builtin "claim.caller" {}, default, []⟩ := by
      obtain ⟨heap, gens, drawn, toks, os⟩ := s
      rfl
    rcases sstep_single (den := denote table) prog w s ⟨looked t u, .builtin "claim.caller" {}, default, []⟩ rfl hz with e | e
    · rw [st] at e
      simp only [schedN, e, Step.lift] at h
      exact ⟨n, h⟩
    · rw [st] at e; cases e
theorem callFrom_looked {c : ClaimW} {t u : List Value → Sem Fin} {w : World} {free : Addr → Prop} {gens : Prop} {kept : Heap → Prop} {s : Shared} (hz : s.asleep)
    (h : c.CallFrom (fun vs => ⟨looked (t vs) (u vs), .builtin "claim.caller" {}, default, []⟩) w free gens kept s) : c.CallFrom (fun vs => ⟨t vs, .builtin "claim.caller" {}, default, []⟩) w free gens kept s := fun args h1 h2 ord h3 => by
  obtain ⟨vs, s₁, hl, n, o, s', hs, rest⟩ := h args h1 h2 ord h3
  obtain ⟨n', hs'⟩ := sched_looked (Shared.asleep_of_life (layAllW_rest _ _ _ hl).2.2.2 hz) hs
  exact ⟨vs, s₁, hl, n', o, s', hs', rest⟩
theorem holdsBy_looked {c : ClaimW} {t u : List Value → Sem Fin} {defs kps : List Str} {writes : Bool} (h : c.HoldsOpenBy (fun vs => ⟨looked (t vs) (u vs), .builtin "claim.caller" {}, default, []⟩) defs kps writes) :
    c.HoldsOpenBy (fun vs => ⟨t vs, .builtin "claim.caller" {}, default, []⟩) defs kps writes := by
  refine ⟨h.1, h.2.1, fun w => ⟨(h.2.2 w).1, fun s hs => ?_⟩⟩
  obtain ⟨s₀, hf, hg, s₁, hT, hd, hr, hu, hC⟩ := (h.2.2 w).2 s hs
  have z0 : s₀.asleep := Shared.asleep_of_life (fence_lifeW hf) (show AfterImport _ w s from hs).life
  exact ⟨s₀, hf, hg, s₁, hT, hd, hr, hu, callFrom_looked (Shared.asleep_of_life hT.2.1 z0) hC⟩
end Mine
end PartY2
section PartY3
open PySem PySem.W PyProof.Rows PySem.Calls
set_option maxRecDepth 100000
set_option maxHeartbeats 4000000
namespace Mine
/-- the walk under the caller -/
abbrev WalkP (q : Program) (loose : List Str) (XP : (Str → Option Value) → Heap → Prop) (YP : World → Heap → Prop) (r : RowW) (d : DefRec) (kwd : List (Str × Expr)) : Prop :=
  ∀ (w : World) (s₀ s₁ : Shared) (mg mb : Str → Option Value), Ground q loose r.records XP w s₀ mg mb s₁.heap → YP w s₁.heap → ∀ (a : Addr) (o : Obj) (pm cd doc dV kV : Value), s₁.heap.get? a = some o →
    o.data = .func { docDef d.name d.params d.body d.scope pm cd doc with defaults := dV, kwdefaults := kV } → s₁.heap.CodeRec cd d.name → Dflts mg s₁.heap d.params kwd dV kV → mg d.name = some (.ref a) → s₁.gens = #[] →
    ∀ (args : List WData) (vals : List Value) (as : List Addr), r.claim.pre args = true → WData.layableAll args = true → ReadsAllW r.records (classAt s₀.heap) s₁.heap vals args as → WellAll w.params s₁.heap vals args → (∀ a ∈ as, (a == sysModules) = false) →
      GoodWG r.claim (classAt s₀.heap) (ExcName.means s₀.heap) args s₁ (.ok (.ret (.bool true))) s₁ ∧
      wpP (model r.prog w) callerA (PySem.call (.ref a) vals) (fun v s' => GoodWG r.claim (classAt s₀.heap) (ExcName.means s₀.heap) args s₁ (.ok (.ret v)) s')
        (fun e s' => GoodWG r.claim (classAt s₀.heap) (ExcName.means s₀.heap) args s₁ (.error e) s') s₁
namespace PySem.W
theorem holds_open {r : OpenRow} {q : Program} {loose : List Str} {Xt : Shared → Bool} {XP : (Str → Option Value) → Heap → Prop} {α : Type} {Yf : Shared → α} {Ya : World → α} {YP : World → Heap → Prop} {d : DefRec} {kwd : List (Str × Expr)} {N : Nat}
    (left : LeftO r.prog q loose Xt Yf Ya N) (hY : ∀ w s, Yf s = Ya w → YP w s.heap) (hYk : ∀ w h h', YP w h → (∀ b o, h.get? b = some o → h'.get? b = some o) → YP w h')
    (hX : ∀ s, Xt s = true → XP (s.heap.nsMap mainGlobals) s.heap) (hXk : ∀ mg h h', XP mg h → (∀ b o, h.get? b = some o → h'.get? b = some o) → XP mg h')
    (hdef : defOf q r.name = some (d, kwd)) (hp : r.prog.theDef r.name = some (d.params, d.body, d.scope)) (hk : kwWritten? d.params.kwonlyargs d.params.kw_defaults = some kwd) (hRf : ∀ s, Xt s = true → RecFacts r.records s.heap) (hwr : (!r.writes || r.records.isEmpty) = true)
    (k1 : r.wellSaid = true) (ok : (chainsOk q && opensWell r.prog && (frees r.toRowW && r.within.isEmpty)) = true) (hb : r.prog.bare) (hw : r.toRowW.promised)
    (call : WalkP q loose XP YP r.toRowW d kwd) : r.Holds := by
  have H := open_anyG (r := r.toRowW) (defs := if r.pinned then [r.name] else []) (kps := r.keeps) (writes := r.writes)
    (run := fun f vs => looked (PySem.call f vs) (pure (.bool true)))
    (tree := fun vs => looked (do match ← nsGet mainNs r.name with
      | some f => do ret (← PySem.call f vs)
      | none => unsupported "claim.caller:no-such-global") (pure (.done (.ret (.bool true))))) left hY hYk hX hXk hRf hwr ok hb hw
    (fun vs w s mg f Q E hg hf h => ?ht) (fun w s hg G n hn => ?pin) (fun w s₀ s₁ mg mb G Y args vs as hpre hlay L low => ?call)
  · exact ⟨k1, hw, holdsBy_looked H⟩
  case ht =>
    intro Γ p hΓ
    have h' := h Γ p hΓ
    unfold looked at h' ⊢
    rw [Sem.wp_stack] at h' ⊢
    cases e : ledB ((Γ.code, p) :: Γ.below) with
    | true =>
      rw [e, if_pos rfl] at h'
      rw [if_pos rfl]
      rw [Sem.wp_bind']
      refine (Sem.wp_nsGet _ Γ _ p s hg _ _).mpr ?_
      rw [hf]
      show Sem.wp _ Γ (do ret (← PySem.call f vs)) _ _ p s
      rw [Sem.wp_bind']
      exact h'
    | false =>
      rw [e, if_neg (by decide)] at h'
      rw [if_neg (by decide)]
      exact h'
  case pin =>
    obtain rfl : n = r.name := by split at hn <;> simp_all
    exact pinned_of_view hg G hdef hp hk
  case call =>
    obtain ⟨a, o, pm, cd, doc, dV, kV, h1, h2, h3, h4, h5⟩ := G.fn hdef
    obtain ⟨g, c⟩ := call w s₀ s₁ mg mb G Y a o pm cd doc dV kV h2 h3 h4 h5 (defOf_name hdef ▸ h1) L.gens args vs as hpre hlay L.reads L.well (L.low low)
    exact ⟨.ref a, h1, wpAny_looked c (wpAny_pure g)⟩
end PySem.W
end Mine
end PartY3
section PartH01
open PySem PySem.W PyProof.Rows
set_option maxRecDepth 100000
set_option maxHeartbeats 8000000
namespace Mine
open_top hd for PySem.Challenge.rw_dm5002_01
end Mine
end PartH01
section PartS
open PySem PySem.W PyProof.Rows PySem.Spec PySem.Calls
set_option maxRecDepth 100000
set_option maxHeartbeats 4000000
namespace Mine
def isHex (c : Nat) : Bool := (48 ≤ c && c ≤ 57) || (97 ≤ c && c ≤ 102) || (65 ≤ c && c ≤ 70)
def hv (c : Nat) : Nat := if c ≤ 57 then c - 48 else if c ≤ 70 then c - 55 else c - 87

/-- what decode makes of a stripped line, the line's end included -/
def lineGo : List Nat → List Nat
  | [] => [10]
  | [61] => []
  | 61 :: a :: b :: r => if isHex a && isHex b then (16 * hv a + hv b) :: lineGo r else 61 :: lineGo (a :: b :: r)
  | c :: r => c :: lineGo r

theorem lineGo_len : ∀ l : List Nat, (lineGo l).length ≤ l.length + 1 := by
  intro l
  fun_induction lineGo l <;> simp_all <;> omega

def goS (l : Str) : List Nat := lineGo (Txt.rstrip l).cps.toList
theorem goS_len (l : Str) : (goS l).length ≤ l.length + 1 := by
  have h1 := lineGo_len (Txt.rstrip l).cps.toList
  have h2 := len_rstrip l
  have h3 : (Txt.rstrip l).cps.toList.length = (Txt.rstrip l).length := Array.length_toList
  unfold goS
  omega

theorem goS_all : ∀ ls : List Str, (ls.flatMap goS).length ≤ (ls.map (·.length)).sum + ls.length
  | [] => Nat.le_refl _
  | l :: r => by
    have h1 := goS_len l
    have h2 := goS_all r
    simp only [List.flatMap_cons, List.length_append, List.map_cons, List.sum_cons, List.length_cons]
    omega
theorem take_sum : ∀ (ls : List Str) (i : Nat), ((ls.take i).map (·.length)).sum + (ls.take i).length ≤ (ls.map (·.length)).sum + ls.length
  | [], i => by simp
  | l :: r, 0 => by simp
  | l :: r, i + 1 => by
    have h := take_sum r i
    simp only [List.take_succ_cons, List.map_cons, List.sum_cons, List.length_cons]
    omega
theorem goS_take (x : Str) (i : Nat) : (((Txt.lines x).take i).flatMap goS).length ≤ x.length + 1 :=
  Nat.le_trans (goS_all _) (Nat.le_trans (take_sum _ _) (StrLaws.lines_weight x))

/-- what decode gives -/
def decL (x : Str) : List Nat :=
  if x.length = 0 then [] else
  let d := (Txt.lines x).flatMap goS
  if (x.cps.toList.getLast? ≠ some 13 ∧ x.cps.toList.getLast? ≠ some 10) ∧ d.getLast? = some 10 then d.dropLast else d
def decS (x : Str) : Str := ⟨(decL x).toArray⟩
end Mine
end PartS
section PartL
open PySem PySem.W PyProof.Rows PySem.Spec PySem.Calls
set_option maxRecDepth 100000
set_option maxHeartbeats 4000000
namespace Mine

/-- what holds behind i items of a loop over a list of any values -/
def KvS {σ : Type} (Led : σ → List (Addr × Obj)) (ps : σ → List (Str × Value)) (x : Str) (stored : List Str) (m₀ : Str → Option Value) (P : Nat → σ → Prop) (i : Nat) (m : Str → Option Value) (nx : List (Addr × Obj)) : Prop :=
  ∃ c : σ, nx = Led c ∧ (∀ p ∈ ps c, m p.1 = some p.2) ∧ (∀ z, z ≠ x → (∀ p ∈ ps c, z ≠ p.1) → stored.contains z = false → m z = m₀ z) ∧ P i c

section
variable {prog : Program} {w : World} {A : Around} {E : Value → Shared → Prop} {s : Shared} {env : Env} {h₀ : Heap} {x : Str} {body : List Stmt} {Q : Flow → Shared → Prop}

theorem kv_list {σ : Type} {l : Addr} {vs : List Value} {m₀ : Str → Option Value} (Led : σ → List (Addr × Obj)) (ps : σ → List (Str × Value)) (stored : List Str) (P : Nat → σ → Prop) (c₀ : σ)
    (hh : A.handled = none) (hls : s.heap.IsList l vs.toArray) (hlL : l ≠ env.locals) (hln : ∀ q ∈ Led c₀, q.1 ≠ l) (F : Fr h₀ env.locals s.heap m₀) (N : News h₀ env.locals s.heap (Led c₀)) (hk : ∀ p ∈ ps c₀, m₀ p.1 = some p.2) (hp : P 0 c₀)
    (turn : ∀ (c : σ) i v (u : Str → Option Value) h tk own, vs[i]? = some v → OwnOff own ((Led c₀).map (·.1)) → P i c →
      Fr h₀ env.locals h (fun y => if y = x then some v else kstB (fun z => if stored.contains z then u z else m₀ z) (ps c) y) → News h₀ env.locals h (Led c ++ own) →
      wpAny (model prog w) A (execs body env) (InvPostN h₀ env.locals (KvS Led ps x stored m₀ P (i + 1)) own ((Led c₀).map (·.1)) { s with heap := h, toks := tk } Q) E { s with heap := h, toks := tk })
    (done : ∀ (c : σ) (u : Str → Option Value) h tk, P vs.length c → Fr h₀ env.locals h (fun y => if y = x then u y else kstB (fun z => if stored.contains z then u z else m₀ z) (ps c) y) → News h₀ env.locals h (Led c) → Q .next { s with heap := h, toks := tk }) :
    wpAny (model prog w) A (pyIter (.ref l)) (fun it s₂ => LoopAtV prog w A h₀ env x body Q E it s₂) E s := by
  obtain ⟨ol, hol, hcls⟩ := id hls
  have hlt : l < s.heap.objs.size := Heap.lt_size hol
  have hne : l ≠ s.heap.objs.size := Nat.ne_of_lt hlt
  refine wpAny_pyIter_list hls ?_
  have W := Walks.list (prog := prog) (w := w) hh s.heap.objs.size l hne vs.toArray
  have hlen : vs.toArray.size = vs.length := List.size_toArray
  rw [hlen] at W
  refine loop_invN (fun i m nx => KvS Led ps x stored m₀ P i m nx) W ?_ ?_ ?_ ?_ ⟨⟨_, Heap.get?_push_size _ rfl, rfl, rfl⟩, hls.at fun o e => Heap.get?_push_of_some _ e⟩ (F.push _) (fun p hp => ⟨Heap.get?_push_of_some _ (N p hp).1, (N p hp).2⟩) ⟨c₀, rfl, hk, fun _ _ _ _ => rfl, hp⟩ ?_ ?_
  · intro hm
    rcases List.mem_cons.mp hm with e | hm
    · exact absurd F.ns.lt (e ▸ Nat.lt_irrefl _)
    · exact hlL (List.mem_singleton.mp hm).symm
  · intro b hb
    rw [List.mem_singleton.mp hb]
    exact next_is_new F
  · intro p hp hI
    exact absurd (Heap.lt_size (N p hp).1) ((List.mem_singleton.mp hI) ▸ Nat.lt_irrefl _)
  · intro q hq hm
    rcases List.mem_cons.mp hm with e | hm
    · exact absurd (Heap.lt_size (N q hq).1) (e ▸ Nat.lt_irrefl _)
    · exact hln q hq (List.mem_singleton.mp hm)
  · rintro i v m₁ news₁ h tk own hin hP hadr hoff ⟨c, rfl, h1, h2, hp'⟩ F₁ N₁
    exact turn c i v m₁ h tk own (by simpa using hP) hoff hp' (kst_fr h1 h2 F₁) N₁
  · rintro m₁ nx h tk ⟨c, rfl, h1, h2, hp'⟩ F₁ N₁
    exact done c m₁ h tk hp' (kst_frOut h1 h2 F₁) N₁

theorem kv_end {σ : Type} {Led : σ → List (Addr × Obj)} {ps : σ → List (Str × Value)} {stored : List Str} {m₀ : Str → Option Value} {P : Nat → σ → Prop} {i : Nat} (c : σ) {L : Addr} {m' : Str → Option Value} {own news' : List (Addr × Obj)} {adr : List Addr} {s₁ : Shared} {h' : Heap} {tk : Nat}
    (F : Fr h₀ L h' m') (N : News h₀ L h' news') (hn : ∀ p ∈ Led c, p ∈ news') (ho : ∀ p ∈ own, p ∈ news') (ha : (Led c).map (·.1) = adr) (hk : ∀ p ∈ ps c, m' p.1 = some p.2) (hr : ∀ z, z ≠ x → (∀ p ∈ ps c, z ≠ p.1) → stored.contains z = false → m' z = m₀ z) (hp : P i c) :
    InvEndN h₀ L (KvS Led ps x stored m₀ P i) own adr s₁ { s₁ with heap := h', toks := tk } :=
  InvEndN.intro F N ⟨c, rfl, hk, hr, hp⟩ ha hn ho
end
end Mine
end PartL
section PartI
open PySem PySem.W PyProof.Rows PySem.Spec PySem.Calls PySem.NumText
set_option maxRecDepth 100000
set_option maxHeartbeats 4000000
namespace Mine

structure Keep (p : Prop) : Prop where
  out : p

theorem wp_text16 {M : Model} {A : Around} {E : Value → Shared → Prop} {s : Shared} {Q : Value → Shared → Prop} {v : Value} {text : List Nat} {n : Int}
    (hs : (text.takeWhile (· != 0)).length ≤ 640) (hr : (int_private% "readNumeral") 0 16 (text.takeWhile (· != 0)) = (int_private% "Numeral.value") n)
    (ha : ((text.takeWhile (· != 0)).length == text.length) = true) (h : Q (.int n s.toks) { s with toks := s.toks + 1 }) :
    wpAny M A ((int_private% "intFromText") v text 16) Q E s := by
  obtain ⟨hp, g, d, tk, os⟩ := s
  repeat (any_goals (first
    | assumption
    | (with_reducible refine wpAny_ite_true (decide_eq_true hs) ?_)
    | (with_reducible refine wpAny_ite_true (decide_eq_true ha) ?_)
    | wp_step))
  all_goals (try rw [hr])
  all_goals (try dsimp only)
  repeat (any_goals (first
    | assumption
    | (with_reducible refine wpAny_ite_true (decide_eq_true hs) ?_)
    | (with_reducible refine wpAny_ite_true (decide_eq_true ha) ?_)
    | wp_step))

theorem gives_text16 {x : PySem.Str} {u k : Tok} {n : Int} (hs : (numSeenOf x).length ≤ 640) (hr : (int_private% "readNumeral") 0 16 (numSeenOf x) = (int_private% "Numeral.value") n)
    (ha : ((numSeenOf x).length == (numTextOf x).length) = true) : Gives (Builtin.«int.__new__» ⟨[.type "int", .str x u, .int 16 k], []⟩) (.int n) :=
  .of_wp fun M A E s Q h => by
    obtain ⟨hp, g, d, tk, os⟩ := s
    have f1 := F.conv_sub_int
    have f2 := F.madeHere_int
    have f6 : typeOf (.str x u) = pure (.type "str") := rfl
    have hk := Keep.mk (And.intro hs (And.intro hr ha))
    clear hs hr ha
    repeat (any_goals (first
      | assumption
      | ((with_reducible show wpAny _ _ ((int_private% "intFromText") _ _ _) _ _ _); refine wp_text16 hk.out.1 hk.out.2.1 hk.out.2.2 ?_)
      | wp_step))
    all_goals exact ⟨_, rfl, h⟩

theorem typeCall_int_2 (a b : Value) : checkTypeCall "int" ⟨[a, b], []⟩ = pure () := by kernel_rfl
theorem newCall_int_2 (a b : Value) : checkBuiltinCall "int.__new__" ⟨[.type "int", a, b], []⟩ = pure () := by kernel_rfl

theorem call_int16 {prog : Program} {w : World} {A : Around} {E : Value → Shared → Prop} {s : Shared} {Q : Value → Shared → Prop} {x : PySem.Str} {t k : Tok} {n : Int}
    (hs : (numSeenOf x).length ≤ 640) (hr : (int_private% "readNumeral") 0 16 (numSeenOf x) = (int_private% "Numeral.value") n)
    (ha : ((numSeenOf x).length == (numTextOf x).length) = true) (h : Q (.int n s.toks) { s with toks := s.toks + 1 }) :
    wpAny (model prog w) A (call (.type "int") [.str x t, .int 16 k]) Q E s :=
  callType_new F.called_int F.newNe_int (typeCall_int_2 _ _) (newCall_int_2 _ _) (fun obj => F.args_object_init_3 obj _ _) F.entry_int_new (gives_text16 hs hr ha).meets (show (Made.int n).post _ s from ⟨rfl, h⟩)
end Mine
namespace Mine
/-- what int(text, 16) reads: the number, or nothing -/
def num16 (t : List Nat) : Option Int :=
  match digits? (based 16 (sign (t.dropWhile blank)).2).1 (((based 16 (sign (t.dropWhile blank)).2).2.2.reverse.dropWhile blank).reverse) with
  | none => none
  | some ds => some (if (sign (t.dropWhile blank)).1 then -((ds.foldl (fun acc d => acc * (based 16 (sign (t.dropWhile blank)).2).1 + d) 0 : Nat) : Int) else ((ds.foldl (fun acc d => acc * (based 16 (sign (t.dropWhile blank)).2).1 + d) 0 : Nat) : Int))

theorem based16 (t : List Nat) : (based 16 t).1 = 16 ∧ (based 16 t).2.1 = false := by
  unfold based
  split
  · split
    · rename_i p hp h
      simp at h
      exact ⟨h.symm, rfl⟩
    · exact ⟨rfl, rfl⟩
  · exact ⟨rfl, rfl⟩

theorem read16 (t : List Nat) : (int_private% "readNumeral") 0 16 t = match num16 t with | some n => (int_private% "Numeral.value") n | none => int_private% "Numeral.invalid" := by
  rw [readNumeral_eq]
  obtain ⟨h1, h2⟩ := based16 (sign (t.dropWhile blank)).2
  unfold num16
  rw [h2]
  cases hd : digits? (based 16 (sign (t.dropWhile blank)).2).1 (((based 16 (sign (t.dropWhile blank)).2).2.2.reverse.dropWhile blank).reverse) with
  | none => rfl
  | some ds =>
    rw [h1]
    unfold judge
    have e1 : (![2, 4, 8, 16, 32].contains 16 && (0 : Nat) != 0 && decide (ds.size > 0)) = false := by
      simp
    have e2 : ((16 : Nat) == 10 && decide (ds.size > 6000)) = false := by simp
    dsimp only
    rw [if_neg (by rw [e1]; exact Bool.false_ne_true), if_neg (by rw [e2]; exact Bool.false_ne_true)]
    rfl

def int16? (x : PySem.Str) : Option Int := if (numSeenOf x).length = (numTextOf x).length then num16 (numSeenOf x) else none

theorem call_int16_some {prog : Program} {w : World} {A : Around} {E : Value → Shared → Prop} {s : Shared} {Q : Value → Shared → Prop} {x : PySem.Str} {t k : Tok} {n : Int}
    (hn : int16? x = some n) (hl : x.length ≤ 640) (h : Q (.int n s.toks) { s with toks := s.toks + 1 }) :
    wpAny (model prog w) A (call (.type "int") [.str x t, .int 16 k]) Q E s := by
  unfold int16? at hn
  split at hn
  · rename_i he
    refine call_int16 (Nat.le_trans (seen_length x) hl) ?_ (by rw [he]; exact beq_self_eq_true _) h
    rw [read16, hn]
  · cases hn
end Mine
end PartI
section PartW
open PySem PySem.W PyProof.Rows PySem.Spec PySem.Calls PySem.Builtin.Str
set_option maxRecDepth 100000
set_option maxHeartbeats 4000000
namespace Mine
theorem cps_length (x : Str) : x.cps.toList.length = x.length := Array.length_toList
theorem str_ext {a b : Str} (h : a.cps.toList = b.cps.toList) : a = b := by
  obtain ⟨⟨a⟩⟩ := a; obtain ⟨⟨b⟩⟩ := b; simpa using h
theorem cat_cps (a b : Str) : (a ++ b).cps.toList = a.cps.toList ++ b.cps.toList := Array.toList_append
theorem nl_cps : (Str.ofString "\n").cps.toList = [10] := by decide +kernel

def clipN (v : Option Int) (d n : Nat) : Nat := match v with
  | none => d
  | some i => (max 0 (min (if i < 0 then i + n else i) (n : Int))).toNat
theorem clipN_le {v : Option Int} {d n : Nat} (hd : d ≤ n) : clipN v d n ≤ n := by
  unfold clipN; split <;> omega
theorem range_map (lo hi : Nat) : sliceRange (lo : Int) (hi : Int) 1 = (List.range (hi - lo)).map (fun k => lo + k) := by
  unfold sliceRange
  have e : (if (1 : Int) > 0 then (if (lo : Int) < (hi : Int) then ((hi : Int) - lo + 1 - 1) / 1 else 0) else (if (lo : Int) > (hi : Int) then ((lo : Int) - hi - 1 - 1) / (-1) else 0)).toNat = hi - lo := by
    rw [if_pos (by decide)]
    split <;> omega
  simp only [e]
  refine List.map_congr_left fun k _ => ?_
  omega
theorem indices_eq (l u : Option Int) (n : Nat) : strSliceIndices l u 1 n = (List.range (clipN u n n - clipN l 0 n)).map (fun k => clipN l 0 n + k) := by
  rw [← range_map]
  unfold strSliceIndices clipN
  cases l <;> cases u <;> simp only [show ((1 : Int) > 0) = True from by simp, if_true] <;> congr 1 <;> omega
theorem slice_cps (x : Str) (l u : Option Int) : (Txt.slice x l u).cps.toList = (x.cps.toList.take (clipN u x.length x.length)).drop (clipN l 0 x.length) := by
  have h1 : clipN u x.length x.length ≤ x.length := clipN_le (Nat.le_refl _)
  have h2 : clipN l 0 x.length ≤ x.length := clipN_le (Nat.zero_le _)
  have hl := cps_length x
  unfold Txt.slice
  rw [indices_eq]
  split
  · rename_i hc
    simp only [beq_self_eq_true, Bool.true_and, List.length_map, List.length_range, beq_iff_eq] at hc
    have e1 : clipN u x.length x.length = x.length := by omega
    by_cases h0 : x.length = 0
    · have e2 : x.cps.toList = [] := List.length_eq_zero_iff.mp (by omega)
      rw [e2]; simp
    · have e2 : clipN l 0 x.length = 0 := by omega
      rw [e1, e2, ← hl, List.take_length, List.drop_zero]
  · show ((List.range (clipN u x.length x.length - clipN l 0 x.length)).map (fun k => clipN l 0 x.length + k)).filterMap (x.cps[·]?) = _
    by_cases hle : clipN l 0 x.length ≤ clipN u x.length x.length
    · have h := StrLaws.picks x.cps.toList (clipN u x.length x.length - clipN l 0 x.length) (clipN l 0 x.length) (by omega)
      rw [List.take_drop] at h
      rw [show clipN l 0 x.length + (clipN u x.length x.length - clipN l 0 x.length) = clipN u x.length x.length by omega] at h
      simpa using h
    · have e3 : clipN u x.length x.length - clipN l 0 x.length = 0 := by omega
      rw [e3]
      simp
      omega

theorem item_cps {x : Str} {i : Int} (h0 : 0 ≤ i) (h1 : i < x.length) : (Txt.item x i).cps.toList = [x.cps.toList[i.toNat]'(by rw [cps_length]; omega)] := by
  have hlt : i.toNat < x.cps.size := by
    have : x.cps.size = x.length := rfl
    omega
  unfold Txt.item Txt.charAt seqIndex?
  rw [if_neg (by omega : ¬ i < 0)]
  simp only [decide_eq_true h0, decide_eq_true h1, Bool.and_self, if_true, Option.bind_some]
  rw [Array.getElem?_eq_getElem hlt]
  simp
theorem item_neg {x : Str} {i : Int} (h0 : i < 0) (h1 : 0 ≤ i + x.length) : (Txt.item x i).cps.toList = [x.cps.toList[(i + x.length).toNat]'(by rw [cps_length]; omega)] := by
  have hlt : (i + x.length).toNat < x.cps.size := by
    have : x.cps.size = x.length := rfl
    omega
  unfold Txt.item Txt.charAt seqIndex?
  rw [if_pos h0]
  simp only [decide_eq_true h1, decide_eq_true (by omega : i + (x.length : Int) < x.length), Bool.and_self, if_true, Option.bind_some]
  rw [Array.getElem?_eq_getElem hlt]
  simp
theorem one_sign {y : Str} {c : Nat} (h : y.cps.toList = [c]) : y = ⟨#[c]⟩ := str_ext (by rw [h])

theorem hex_digits_cps : (Str.ofString "0123456789abcdefABCDEF").cps.toList = [48,49,50,51,52,53,54,55,56,57,97,98,99,100,101,102,65,66,67,68,69,70] := by decide +kernel
theorem mem_hex (c : Nat) : c ∈ [48,49,50,51,52,53,54,55,56,57,97,98,99,100,101,102,65,66,67,68,69,70] ↔ isHex c = true := by
  unfold isHex
  simp only [List.mem_cons, List.not_mem_nil, or_false, Bool.or_eq_true, Bool.and_eq_true, decide_eq_true_eq]
  omega
/-- the walk's test «one sign in hexdigits» -/
theorem occ_hex {y : Str} {c : Nat} (h : y.cps.toList = [c]) : (occurrences (Str.ofString "0123456789abcdefABCDEF") y 0 (Str.ofString "0123456789abcdefABCDEF").length 1).isEmpty = !(isHex c) := by
  have q := StrLaws.found_one (Str.ofString "0123456789abcdefABCDEF") c
  rw [one_sign h]
  rw [hex_digits_cps] at q
  have e : decide (c ∈ [48,49,50,51,52,53,54,55,56,57,97,98,99,100,101,102,65,66,67,68,69,70]) = isHex c := by
    have := mem_hex c
    cases hx : isHex c
    · rw [hx] at this; simp only [Bool.false_eq_true, iff_false] at this; exact decide_eq_false this
    · rw [hx] at this; simp only [iff_true] at this; exact decide_eq_true this
  rw [e] at q
  rw [← q, Bool.not_not]
theorem ne_sign {y : Str} {c d : Nat} (h : y.cps.toList = [c]) : (y != (⟨#[d]⟩ : Str)) = decide (c ≠ d) := by
  rw [one_sign h]
  by_cases hc : c = d
  · subst hc; simp
  · rw [decide_eq_true hc]
    simp only [bne_iff_ne, ne_eq]
    intro e
    injection e with e
    have := congrArg Array.toList e
    simp at this
    exact hc this
theorem eq_sign_lit : (Str.ofString "=") = (⟨#[61]⟩ : Str) := by decide +kernel

/-! ## the ways through a turn of decode's while -/
section
variable {L dd : Str} {j : Nat} {G : List Nat}
abbrev At (L dd : Str) (j : Nat) (G : List Nat) : Prop := (j < L.length ∧ dd.cps.toList ++ lineGo (L.cps.toList.drop j) = G) ∨ (j = L.length ∧ dd.cps.toList = G)

theorem At.left (h : At L dd j G) (hj : (j : Int) < (L.length : Int)) : dd.cps.toList ++ lineGo (L.cps.toList.drop j) = G := by
  rcases h with h | h
  · exact h.2
  · omega

theorem lineGo_cons {c : Nat} {r : List Nat} (h : c ≠ 61) : lineGo (c :: r) = c :: lineGo r := by
  rw [lineGo.eq_4]
  · exact fun e => absurd e h
  · exact fun _ _ _ e => absurd e h
theorem lineGo_eq1 {a : Nat} {r : List Nat} (h : isHex a = false) : lineGo (61 :: a :: r) = 61 :: lineGo (a :: r) := by
  cases r with
  | nil => rw [lineGo.eq_4] <;> simp
  | cons b r => rw [lineGo.eq_3, h]; simp
theorem lineGo_eq2 {a b : Nat} {r : List Nat} (h : isHex b = false) : lineGo (61 :: a :: b :: r) = 61 :: lineGo (a :: b :: r) := by
  rw [lineGo.eq_3, h]; simp
theorem lineGo_eq3 {a : Nat} : lineGo [61, a] = 61 :: lineGo [a] := by
  rw [lineGo.eq_4] <;> simp
theorem lineGo_oct {a b : Nat} {r : List Nat} (h1 : isHex a = true) (h2 : isHex b = true) : lineGo (61 :: a :: b :: r) = (16 * hv a + hv b) :: lineGo r := by
  rw [lineGo.eq_3, h1, h2]; simp

theorem emit_gen (hPW : At L dd j G) (hj : (j : Int) < (L.length : Int)) (h : lineGo (L.cps.toList.drop j) = (L.cps.toList[j]'(by rw [cps_length]; omega)) :: lineGo (L.cps.toList.drop (j + 1))) :
    (dd ++ Txt.item L (j : Int)).cps.toList ++ lineGo (L.cps.toList.drop (j + 1)) = G := by
  have h1 := hPW.left hj
  rw [h] at h1
  rw [cat_cps, item_cps (by omega) hj]
  simpa using h1
theorem end_gen {z : Str} (he : (j : Int) + 1 = (L.length : Int)) (h : z.cps.toList ++ lineGo (L.cps.toList.drop (j + 1)) = G) : (z ++ Str.ofString "\n").cps.toList = G := by
  have hl := cps_length L
  rw [List.drop_eq_nil_of_le (by omega)] at h
  rw [cat_cps, nl_cps]
  simpa [lineGo] using h

theorem way_emit (hPW : At L dd j G) (hj : (j : Int) < (L.length : Int)) (hc : (Txt.item L (j : Int) != Str.ofString "=") = true) : (dd ++ Txt.item L (j : Int)).cps.toList ++ lineGo (L.cps.toList.drop (j + 1)) = G := by
  refine emit_gen hPW hj ?_
  have hl := cps_length L
  rw [eq_sign_lit, ne_sign (item_cps (by omega) hj)] at hc
  simp only [decide_eq_true_eq] at hc
  rw [List.drop_eq_getElem_cons (by omega)]
  exact lineGo_cons hc
theorem is_eq (hj : (j : Int) < (L.length : Int)) (hc : (Txt.item L (j : Int) != Str.ofString "=") = false) : L.cps.toList[j]'(by rw [cps_length]; omega) = 61 := by
  rw [eq_sign_lit, ne_sign (item_cps (by omega) hj)] at hc
  simpa using hc
theorem way_soft (hPW : At L dd j G) (hj : (j : Int) < (L.length : Int)) (hc : (Txt.item L (j : Int) != Str.ofString "=") = false) (he : (j : Int) + 1 = (L.length : Int)) : dd.cps.toList = G := by
  have h1 := hPW.left hj
  have hl := cps_length L
  have h2 := is_eq hj hc
  rw [List.drop_eq_getElem_cons (by omega), h2, List.drop_eq_nil_of_le (by omega)] at h1
  simpa [lineGo] using h1
theorem way_eq1 (hPW : At L dd j G) (hj : (j : Int) < (L.length : Int)) (hc : (Txt.item L (j : Int) != Str.ofString "=") = false) (h2 : (j : Int) + 2 < (L.length : Int))
    (hx : (occurrences (Str.ofString "0123456789abcdefABCDEF") (Txt.item L ((j : Int) + 1)) 0 (Str.ofString "0123456789abcdefABCDEF").length 1).isEmpty = true) : (dd ++ Txt.item L (j : Int)).cps.toList ++ lineGo (L.cps.toList.drop (j + 1)) = G := by
  refine emit_gen hPW hj ?_
  have hl := cps_length L
  have q := is_eq hj hc
  rw [occ_hex (item_cps (by omega) (by omega))] at hx
  have e : ((j : Int) + 1).toNat = j + 1 := by omega
  simp only [e] at hx
  rw [List.drop_eq_getElem_cons (by omega), q, List.drop_eq_getElem_cons (i := j + 1) (by omega)]
  exact lineGo_eq1 (by simpa using hx)
theorem way_eq2 (hPW : At L dd j G) (hj : (j : Int) < (L.length : Int)) (hc : (Txt.item L (j : Int) != Str.ofString "=") = false) (h2 : (j : Int) + 2 < (L.length : Int))
    (hx : (occurrences (Str.ofString "0123456789abcdefABCDEF") (Txt.item L ((j : Int) + 2)) 0 (Str.ofString "0123456789abcdefABCDEF").length 1).isEmpty = true) : (dd ++ Txt.item L (j : Int)).cps.toList ++ lineGo (L.cps.toList.drop (j + 1)) = G := by
  refine emit_gen hPW hj ?_
  have hl := cps_length L
  have q := is_eq hj hc
  rw [occ_hex (item_cps (by omega) (by omega))] at hx
  have e : ((j : Int) + 2).toNat = j + 2 := by omega
  simp only [e] at hx
  rw [List.drop_eq_getElem_cons (by omega), q, List.drop_eq_getElem_cons (i := j + 1) (by omega), List.drop_eq_getElem_cons (i := j + 1 + 1) (by omega)]
  exact lineGo_eq2 (by simpa using hx)
theorem way_eq3 (hPW : At L dd j G) (hj : (j : Int) < (L.length : Int)) (hc : (Txt.item L (j : Int) != Str.ofString "=") = false) (he : (j : Int) + 1 ≠ (L.length : Int)) (h2 : ¬ (j : Int) + 2 < (L.length : Int)) : (dd ++ Txt.item L (j : Int)).cps.toList ++ lineGo (L.cps.toList.drop (j + 1)) = G := by
  refine emit_gen hPW hj ?_
  have hl := cps_length L
  have q := is_eq hj hc
  rw [List.drop_eq_getElem_cons (by omega), q, List.drop_eq_getElem_cons (i := j + 1) (by omega), List.drop_eq_nil_of_le (by omega)]
  exact lineGo_eq3

def pairVal (L : Str) (j : Nat) : Nat := 16 * hv (L.cps.toList.getD (j + 1) 0) + hv (L.cps.toList.getD (j + 2) 0)
theorem way_oct (hPW : At L dd j G) (hj : (j : Int) < (L.length : Int)) (hc : (Txt.item L (j : Int) != Str.ofString "=") = false) (h2 : (j : Int) + 2 < (L.length : Int))
    (hx : (occurrences (Str.ofString "0123456789abcdefABCDEF") (Txt.item L ((j : Int) + 1)) 0 (Str.ofString "0123456789abcdefABCDEF").length 1).isEmpty = false)
    (hy : (occurrences (Str.ofString "0123456789abcdefABCDEF") (Txt.item L ((j : Int) + 2)) 0 (Str.ofString "0123456789abcdefABCDEF").length 1).isEmpty = false) :
    (dd ++ (⟨#[pairVal L j]⟩ : Str)).cps.toList ++ lineGo (L.cps.toList.drop (j + 3)) = G := by
  have h1 := hPW.left hj
  have hl := cps_length L
  have q := is_eq hj hc
  rw [occ_hex (item_cps (by omega) (by omega))] at hx hy
  have e1 : ((j : Int) + 1).toNat = j + 1 := by omega
  have e2 : ((j : Int) + 2).toNat = j + 2 := by omega
  simp only [e1] at hx
  simp only [e2] at hy
  rw [List.drop_eq_getElem_cons (by omega), q, List.drop_eq_getElem_cons (i := j + 1) (by omega), List.drop_eq_getElem_cons (i := j + 1 + 1) (by omega), lineGo_oct (by simpa using hx) (by simpa using hy)] at h1
  rw [cat_cps]
  unfold pairVal
  rw [List.getD_eq_getElem?_getD, List.getD_eq_getElem?_getD, List.getElem?_eq_getElem (by omega), List.getElem?_eq_getElem (by omega)]
  simpa using h1
theorem end_oct {z : Str} (he : (j : Int) + 3 = (L.length : Int)) (h : z.cps.toList ++ lineGo (L.cps.toList.drop (j + 3)) = G) : (z ++ Str.ofString "\n").cps.toList = G := by
  have hl := cps_length L
  rw [List.drop_eq_nil_of_le (by omega)] at h
  rw [cat_cps, nl_cps]
  simpa [lineGo] using h
end

theorem hexes : ∀ b ∈ [48,49,50,51,52,53,54,55,56,57,97,98,99,100,101,102,65,66,67,68,69,70], ∀ c ∈ [48,49,50,51,52,53,54,55,56,57,97,98,99,100,101,102,65,66,67,68,69,70],
    int16? ⟨#[b, c]⟩ = some ((16 * hv b + hv c : Nat) : Int) ∧ 16 * hv b + hv c < 256 := by decide +kernel
theorem hex_pair {y : Str} {b c : Nat} (h : y.cps.toList = [b, c]) (hb : isHex b = true) (hc : isHex c = true) : int16? y = some ((16 * hv b + hv c : Nat) : Int) ∧ 16 * hv b + hv c < 256 := by
  have e : y = ⟨#[b, c]⟩ := str_ext (by rw [h])
  rw [e]
  exact hexes b ((mem_hex b).mpr hb) c ((mem_hex c).mpr hc)

theorem pair_in {L : Str} {j : Nat} (h2 : (j : Int) + 2 < (L.length : Int))
    (hx : (occurrences (Str.ofString "0123456789abcdefABCDEF") (Txt.item L ((j : Int) + 1)) 0 (Str.ofString "0123456789abcdefABCDEF").length 1).isEmpty = false)
    (hy : (occurrences (Str.ofString "0123456789abcdefABCDEF") (Txt.item L ((j : Int) + 2)) 0 (Str.ofString "0123456789abcdefABCDEF").length 1).isEmpty = false) :
    int16? (Txt.slice (Txt.slice L (some (j : Int)) (some ((j : Int) + 3))) (some 1) (some 3)) = some ((pairVal L j : Nat) : Int) ∧ pairVal L j < 256 := by
  have hl := cps_length L
  rw [occ_hex (item_cps (by omega) (by omega))] at hx hy
  have e1 : ((j : Int) + 1).toNat = j + 1 := by omega
  have e2 : ((j : Int) + 2).toNat = j + 2 := by omega
  simp only [e1] at hx
  simp only [e2] at hy
  have s1 : (Txt.slice L (some (j : Int)) (some ((j : Int) + 3))).cps.toList = [L.cps.toList[j]'(by omega), L.cps.toList[j + 1]'(by omega), L.cps.toList[j + 2]'(by omega)] := by
    rw [slice_cps]
    have c1 : clipN (some (j : Int)) 0 L.length = j := by unfold clipN; simp only; omega
    have c2 : clipN (some ((j : Int) + 3)) L.length L.length = j + 3 := by unfold clipN; simp only; omega
    rw [c1, c2, List.drop_take, List.drop_eq_getElem_cons (by omega), List.drop_eq_getElem_cons (i := j + 1) (by omega), List.drop_eq_getElem_cons (i := j + 1 + 1) (by omega)]
    have e : j + 3 - j = 3 := by omega
    rw [e]
    simp
  have l1 : (Txt.slice L (some (j : Int)) (some ((j : Int) + 3))).length = 3 := by rw [← cps_length, s1]; rfl
  have s2 : (Txt.slice (Txt.slice L (some (j : Int)) (some ((j : Int) + 3))) (some 1) (some 3)).cps.toList = [L.cps.toList[j + 1]'(by omega), L.cps.toList[j + 2]'(by omega)] := by
    rw [slice_cps, s1, l1]
    rfl
  have h := hex_pair s2 (by simpa using hx) (by simpa using hy)
  unfold pairVal
  rw [List.getD_eq_getElem?_getD, List.getD_eq_getElem?_getD, List.getElem?_eq_getElem (by omega), List.getElem?_eq_getElem (by omega)]
  exact h
end Mine
namespace Mine
theorem take_go {x y : Str} {vs : List Str} {i : Nat} (e : vs = Txt.lines x) (hy : vs[i]? = some y) : ((Txt.lines x).take (i + 1)).flatMap goS = ((Txt.lines x).take i).flatMap goS ++ goS y := by
  rw [← e, List.take_add_one, hy]
  simp
theorem go_empty {y : Str} (h : ((Txt.rstrip y).length : Int) = 0) : goS y = [10] := by
  have hl := cps_length (Txt.rstrip y)
  have e : (Txt.rstrip y).cps.toList = [] := List.length_eq_zero_iff.mp (by omega)
  unfold goS
  rw [e]
  rfl
theorem way_empty {d y : Str} {G : List Nat} (hd : d.cps.toList = G) (h : ((Txt.rstrip y).length : Int) = 0) : (d ++ Str.ofString "\n").cps.toList = G ++ goS y := by
  rw [cat_cps, nl_cps, go_empty h, hd]
theorem At.over {L dd : Str} {j : Nat} {G : List Nat} (h : At L dd j G) (hj : ¬ (j : Int) < (L.length : Int)) : dd.cps.toList = G := by
  rcases h with h | h
  · omega
  · exact h.2
end Mine
namespace Mine
theorem slice_13_le (x : Str) : (Txt.slice x (some 1) (some 3)).length ≤ 3 := by
  rw [← cps_length, slice_cps, List.length_drop, List.length_take]
  have : clipN (some 3) x.length x.length ≤ 3 := by unfold clipN; simp only; omega
  omega
end Mine
end PartW
section PartW2
open PySem PySem.W PyProof.Rows PySem.Spec PySem.Calls PySem.Builtin.Str
set_option maxRecDepth 100000
set_option maxHeartbeats 4000000
namespace Mine
theorem last_item {x : Str} (hx : (x.length : Int) ≠ 0) : ∃ c, x.cps.toList.getLast? = some c ∧ (Txt.item x (-1)).cps.toList = [c] := by
  have hl := cps_length x
  have hne : x.cps.toList ≠ [] := by intro e; rw [e] at hl; simp at hl; omega
  refine ⟨x.cps.toList.getLast hne, List.getLast?_eq_some_getLast hne, ?_⟩
  rw [item_neg (by omega) (by omega), List.getLast_eq_getElem]
  congr 2
  omega
theorem crlf_cps : (Str.ofString "\r\n").cps.toList = [13, 10] := by decide +kernel
theorem occ_crlf {y : Str} {c : Nat} (h : y.cps.toList = [c]) : (occurrences (Str.ofString "\r\n") y 0 (Str.ofString "\r\n").length 1).isEmpty = !(decide (c = 13 ∨ c = 10)) := by
  have q := StrLaws.found_one (Str.ofString "\r\n") c
  rw [one_sign h]
  rw [crlf_cps] at q
  have e : decide (c ∈ [13, 10]) = decide (c = 13 ∨ c = 10) := by simp
  rw [e] at q
  rw [← q, Bool.not_not]
theorem ends_nl (d : Str) : Txt.endswith d (Str.ofString "\n") = decide (d.cps.toList.getLast? = some 10) := by
  have hl := cps_length d
  have e1 : (Str.ofString "\n").length = 1 := by decide +kernel
  have e2 : (Str.ofString "\n").cps = #[10] := by decide +kernel
  unfold Txt.endswith subAt
  rw [e1, e2]
  by_cases h0 : d.length = 0
  · have e : d.cps.toList = [] := List.length_eq_zero_iff.mp (by omega)
    rw [e]
    simp [h0]
  · have hne : d.cps.toList ≠ [] := by intro e; rw [e] at hl; simp at hl; omega
    rw [List.getLast?_eq_some_getLast hne, List.getLast_eq_getElem]
    have hlt : d.length - 1 < d.cps.size := by have : d.cps.size = d.length := rfl; omega
    have e3 : d.cps.extract (d.length - 1) (d.length - 1 + 1) = #[d.cps[d.length - 1]] := by
      apply Array.ext
      · simp; have : d.cps.size = d.length := rfl; omega
      · intro i h1 h2
        simp at h2
        subst h2
        simp
    rw [e3]
    have e4 : 0 + 1 ≤ d.length := by omega
    simp only [e4, decide_true, Bool.true_and]
    have e5 : d.cps.toList[d.cps.toList.length - 1]'(by omega) = d.cps[d.length - 1] := by
      simp [Array.getElem_toList]
      congr 1
    rw [e5]
    by_cases hc : d.cps[d.length - 1] = 10
    · simp [hc]
    · simp [hc]
theorem cut_last {d : Str} (h : d.cps.toList ≠ []) : (Txt.slice d none (some (-((1 : Nat) : Int)))).cps.toList = d.cps.toList.dropLast := by
  have hl := cps_length d
  have : 0 < d.cps.toList.length := List.length_pos_iff.mpr h
  rw [slice_cps, List.dropLast_eq_take]
  have e1 : clipN (some (-((1 : Nat) : Int))) d.length d.length = d.cps.toList.length - 1 := by
    unfold clipN
    simp only
    omega
  rw [e1]
  rfl

theorem dec_cut {x d : Str} (hx : (x.length : Int) ≠ 0) (hd : d.cps.toList = (Txt.lines x).flatMap goS) (h1 : (occurrences (Str.ofString "\r\n") (Txt.item x (-1)) 0 (Str.ofString "\r\n").length 1).isEmpty = true) (h2 : Txt.endswith d (Str.ofString "\n") = true) :
    Txt.slice d none (some (-((1 : Nat) : Int))) = decS x := by
  obtain ⟨c, hc1, hc2⟩ := last_item hx
  rw [occ_crlf hc2] at h1
  rw [ends_nl, decide_eq_true_eq] at h2
  have h3 : ¬ (c = 13 ∨ c = 10) := by simpa using h1
  apply str_ext
  rw [cut_last (by intro e; rw [e] at h2; simp at h2)]
  unfold decS decL
  rw [if_neg (by omega)]
  show _ = (if _ then _ else _ : List Nat)
  rw [← hd, hc1, if_pos ⟨⟨by simpa using fun e => h3 (.inl e), by simpa using fun e => h3 (.inr e)⟩, h2⟩]
theorem dec_keep1 {x d : Str} (hx : (x.length : Int) ≠ 0) (hd : d.cps.toList = (Txt.lines x).flatMap goS) (h2 : Txt.endswith d (Str.ofString "\n") = false) : d = decS x := by
  rw [ends_nl, decide_eq_false_iff_not] at h2
  apply str_ext
  unfold decS decL
  rw [if_neg (by omega)]
  show _ = (if _ then _ else _ : List Nat)
  rw [← hd, if_neg (fun h => h2 h.2)]
theorem dec_keep2 {x d : Str} (hx : (x.length : Int) ≠ 0) (hd : d.cps.toList = (Txt.lines x).flatMap goS) (h1 : (occurrences (Str.ofString "\r\n") (Txt.item x (-1)) 0 (Str.ofString "\r\n").length 1).isEmpty = false) : d = decS x := by
  obtain ⟨c, hc1, hc2⟩ := last_item hx
  rw [occ_crlf hc2] at h1
  have h3 : c = 13 ∨ c = 10 := by rw [Bool.not_eq_false', decide_eq_true_eq] at h1; exact h1
  apply str_ext
  unfold decS decL
  rw [if_neg (by omega)]
  show _ = (if _ then _ else _ : List Nat)
  rw [← hd, hc1, if_neg]
  rintro ⟨⟨a, b⟩, _⟩
  rcases h3 with rfl | rfl
  · exact a rfl
  · exact b rfl
theorem dec_empty {x : Str} (hx : (x.length : Int) = 0) : x = decS x := by
  have hl := cps_length x
  apply str_ext
  unfold decS decL
  rw [if_pos (by omega)]
  exact List.length_eq_zero_iff.mp (by omega)
theorem ret_str {h₀ h' : Heap} {L : Addr} {m : Str → Option Value} {news : List (Addr × Obj)} {s : Shared} {Q : Value → Shared → Prop} {x y : Str} {t : Tok} {tk' : Nat}
    (hret : ∀ (t : Tok) (h' : Heap) (tk' : Nat), Fr h₀ L h' m → News h₀ L h' news → Q (.str x t) { s with heap := h', toks := tk' }) (e : y = x) (F : Fr h₀ L h' m) (N : News h₀ L h' news) : Q (.str y t) { s with heap := h', toks := tk' } := by
  subst e
  exact hret t h' tk' F N
theorem ret_bool {h₀ h' : Heap} {L : Addr} {m : Str → Option Value} {news : List (Addr × Obj)} {s : Shared} {Q : Value → Shared → Prop} {x y : Bool} {tk' : Nat}
    (hret : ∀ (t : Tok) (h' : Heap) (tk' : Nat), Fr h₀ L h' m → News h₀ L h' news → Q (.bool x) { s with heap := h', toks := tk' }) (e : y = x) (F : Fr h₀ L h' m) (N : News h₀ L h' news) : Q (.bool y) { s with heap := h', toks := tk' } := by
  subst e
  exact hret 0 h' tk' F N
theorem ret_int {h₀ h' : Heap} {L : Addr} {m : Str → Option Value} {news : List (Addr × Obj)} {s : Shared} {Q : Value → Shared → Prop} {x y : Int} {t : Tok} {tk' : Nat}
    (hret : ∀ (t : Tok) (h' : Heap) (tk' : Nat), Fr h₀ L h' m → News h₀ L h' news → Q (.int x t) { s with heap := h', toks := tk' }) (e : y = x) (F : Fr h₀ L h' m) (N : News h₀ L h' news) : Q (.int y t) { s with heap := h', toks := tk' } := by
  subst e
  exact hret t h' tk' F N
end Mine
end PartW2
section PartR1
open PySem PySem.W PyProof.Rows PySem.Spec PySem.Calls PySem.Builtin
set_option maxRecDepth 100000
set_option maxHeartbeats 4000000
namespace Mine
theorem plain_pattern : PlainAttrs "re.Pattern" :=
  ⟨⟨"object.__getattribute__", by rw [typeLookup_type, builtinLookup_eq_fast]; kernel_rfl, by decide +kernel⟩, by rw [typeLookup_type, builtinLookup_eq_fast]; kernel_rfl⟩
theorem plain_match : PlainAttrs "re.Match" :=
  ⟨⟨"object.__getattribute__", by rw [typeLookup_type, builtinLookup_eq_fast]; kernel_rfl, by decide +kernel⟩, by rw [typeLookup_type, builtinLookup_eq_fast]; kernel_rfl⟩
theorem slot_sub : Slot "re.Pattern" "sub" "re.Pattern.sub" :=
  .of (owner := "re.Pattern") (n := "sub") (by rw [typeLookup_type, builtinLookup_eq_fast]; kernel_rfl) (by decide +kernel) (by decide +kernel) (by decide +kernel)
    (by first | exact .inl (by decide +kernel) | exact .inr (by decide +kernel)) (by rw [isSubtype_type]; kernel_rfl)
theorem type_sub : typeOf (.builtin "re.Pattern.sub") = pure (.type "method_descriptor") := by show builtinType _ = _; rw [builtinType_eq_fast]; kernel_rfl
theorem entry_sub : entryFor table "re.Pattern.sub" = some Builtin.«re.Pattern.sub» := entryFor_of_tree (by kernel_rfl)
theorem owner_pattern : Manifest.owners.lookup (String.ofList ['n', 'r', 'e', 't', 't', 'a', 'P', '.', 'e', 'r'].reverse) = some Manifest.sig_re_Pattern := by kernel_rfl
theorem args_sub (a b c : Value) : argsOk "re.Pattern.sub" ⟨[a, b, c], []⟩ := by
  unfold argsOk; rw [signature?_of (id := "re.Pattern.sub") (n := ['b', 'u', 's']) (o := ['n', 'r', 'e', 't', 't', 'a', 'P', '.', 'e', 'r']) (by kernel_rfl) owner_pattern]; kernel_rfl
theorem slot_group : Slot "re.Match" "group" "re.Match.group" :=
  .of (owner := "re.Match") (n := "group") (by rw [typeLookup_type, builtinLookup_eq_fast]; kernel_rfl) (by decide +kernel) (by decide +kernel) (by decide +kernel)
    (by first | exact .inl (by decide +kernel) | exact .inr (by decide +kernel)) (by rw [isSubtype_type]; kernel_rfl)
theorem type_group : typeOf (.builtin "re.Match.group") = pure (.type "method_descriptor") := by show builtinType _ = _; rw [builtinType_eq_fast]; kernel_rfl
theorem entry_group : entryFor table "re.Match.group" = some Builtin.«re.Match.group» := entryFor_of_tree (by kernel_rfl)
theorem owner_match : Manifest.owners.lookup (String.ofList ['h', 'c', 't', 'a', 'M', '.', 'e', 'r'].reverse) = some Manifest.sig_re_Match := by kernel_rfl
theorem args_group (a b : Value) : argsOk "re.Match.group" ⟨[a, b], []⟩ := by
  unfold argsOk; rw [signature?_of (id := "re.Match.group") (n := ['p', 'u', 'o', 'r', 'g']) (o := ['h', 'c', 't', 'a', 'M', '.', 'e', 'r']) (by kernel_rfl) owner_match]; kernel_rfl
theorem entry_subloop : entryFor table "re.Pattern.sub.loop" = some Builtin.«re.Pattern.sub.loop» := entryFor_of_tree (by kernel_rfl)
theorem plain_subloop : plainId "re.Pattern.sub.loop" = true := by decide +kernel
end Mine
end PartR1
section PartR2
set_option maxRecDepth 100000
set_option maxHeartbeats 4000000
open PySem
namespace Mine
open PySem.Sre PySem.Sre.M

def reCode : Array Nat := #[14, 8, 1, 3, 3, 1, 1, 61, 0, 16, 61, 24, 16, 2, 2, 13, 11, 9, 0, 67043328, 126, 126, 0, 0, 0, 0, 0, 1, 1]

/-- the machine that is about to look at place s -/
def look (text : Array Nat) (seen : Seen) (must first : Bool) (s : Nat) : Sre.M :=
  { code := reCode, text, lim := text.size, start := s, lastStart := text.size, wholeText := false, mustAdvance := must, pc := 9, pos := s, handed := s, outermost := first,
    marks := #[], lastmark := -1, lastindex := -1, loops := #[], inner := none, frames := [{ wait := .nextStart, pc := 9, pos := s, outermost := first }], weight := 1, answer := none, seen, outcome := none }

theorem search_start (text : Array Nat) (s : Nat) (must : Bool) (h : s ≤ text.size) (h3 : ¬ text.size - s < 3) :
    forSearch reCode text 0 s text.size must = look text (({} : Seen).add 14) must true s := by
  unfold forSearch
  have e1 : (header reCode) = (3, 9) := by decide +kernel
  have e2 : ((9 : Nat) != 0 && reCode.getD 2 0 &&& 5 != 0) = true := by decide +kernel
  simp only [e1, e2]
  rw [if_neg (by simp; omega)]
  rfl

theorem search_short (text : Array Nat) (s : Nat) (must : Bool) (h3 : s > text.size ∨ text.size - s < 3) : ∃ m : Sre.M, forSearch reCode text 0 s text.size must = m ∧ m.outcome = none ∧ m.answer = some false ∧ m.frames = [] := by
  unfold forSearch
  have e1 : (header reCode) = (3, 9) := by decide +kernel
  simp only [e1]
  rw [if_pos (by simpa using h3)]
  exact ⟨_, rfl, rfl, rfl, rfl⟩

theorem step_exec {m : Sre.M} (h1 : m.outcome = none) (h2 : m.answer = none) (h3 : m.pc < m.code.size) : m.step = m.exec := by
  unfold M.step
  rw [h1, h2]
  simp [h3]
theorem step_resume {m : Sre.M} {yes : Bool} {f : Sre.Frame} {rest : List Sre.Frame} (h1 : m.outcome = none) (h2 : m.answer = some yes) (h3 : m.frames = f :: rest) :
    m.step = resume { m with answer := none, frames := rest, weight := m.weight - (1 + f.kept.marks.size), pc := f.pc, pos := f.pos, outermost := f.outermost } f yes := by
  unfold M.step
  rw [h1, h2, h3]
  rfl
/-- the first sign is another one -/
theorem look_no (text : Array Nat) (seen : Seen) (must first : Bool) (s : Nat) (hs : s < text.size) (hc : text.getD s 0 ≠ 61) :
    (look text seen must first s).step = { look text seen must first s with answer := some false, seen := seen.add 16 } := by
  have hb : (text.getD s 0 == 61) = false := by simpa using hc
  rw [step_exec rfl rfl (by show 9 < 29; decide)]
  unfold M.exec
  show (if _ then _ else _) = _
  rw [if_neg (by show ¬ s ≥ text.size; omega)]
  show (match (Except.ok (text.getD s 0 == 61, seen.add 16) : Except String (Bool × Seen)) with | .error why => _ | .ok (false, seen) => _ | .ok (true, seen) => _) = _
  rw [hb]
  rfl
theorem look_end (text : Array Nat) (seen : Seen) (must first : Bool) :
    (look text seen must first text.size).step = { look text seen must first text.size with answer := some false, seen := seen.add 16 } := by
  rw [step_exec rfl rfl (by show 9 < 29; decide)]
  unfold M.exec
  show (if _ then _ else _) = _
  rw [if_pos (by show text.size ≥ text.size; omega)]
  rfl
theorem look_next (text : Array Nat) (seen seen' : Seen) (must first : Bool) (s : Nat) (hs : s < text.size) (m : Sre.M) (hm : m = { look text seen must first s with answer := some false, seen := seen', pc := m.pc, pos := m.pos }) :
    m.step = look text seen' false false (s + 1) := by
  rw [hm]
  show (if s < text.size then _ else _) = _
  rw [if_pos hs]
  rfl
theorem look_over (text : Array Nat) (seen seen' : Seen) (must first : Bool) :
    ({ look text seen must first text.size with answer := some false, seen := seen' } : Sre.M).step.step.outcome = some .failed := by
  have e : ({ look text seen must first text.size with answer := some false, seen := seen' } : Sre.M).step = { look text seen must first text.size with answer := some false, seen := seen', frames := [], weight := 0 } := by
    show (if text.size < text.size then _ else _) = _
    rw [if_neg (Nat.lt_irrefl _)]
    rfl
  rw [e]
  rfl
/-- the first sign is = -/
theorem look_lit (text : Array Nat) (seen : Seen) (must first : Bool) (s : Nat) (hs : s < text.size) (hc : text.getD s 0 = 61) :
    (look text seen must first s).step = { look text seen must first s with seen := seen.add 16, pc := 11, pos := s + 1 } := by
  have hb : (text.getD s 0 == 61) = true := by simpa using hc
  rw [step_exec rfl rfl (by show 9 < 29; decide)]
  unfold M.exec
  show (if _ then _ else _) = _
  rw [if_neg (by show ¬ s ≥ text.size; omega)]
  show (match (Except.ok (text.getD s 0 == 61, seen.add 16) : Except String (Bool × Seen)) with | .error why => _ | .ok (false, seen) => _ | .ok (true, seen) => _) = _
  rw [hb]
  rfl

def hexBit (c : Nat) : Bool := c < 256 && (reCode.getD (17 + (1 + c / 32)) 0).testBit (c % 32)
theorem accept_eq (c : Nat) (seen : Seen) : accepts reCode 15 c seen = (if (decide (c < 256) && (reCode.getD (17 + (1 + c / 32)) 0).testBit (c % 32)) = true then .ok (true, seen.add 9) else .ok (false, (seen.add 9).add 0)) := rfl
theorem accept_in (c : Nat) (seen : Seen) : ∃ seen', accepts reCode 15 c seen = .ok (hexBit c, seen') := by
  rw [accept_eq]
  unfold hexBit
  cases (decide (c < 256) && (reCode.getD (17 + (1 + c / 32)) 0).testBit (c % 32))
  · exact ⟨_, rfl⟩
  · exact ⟨_, rfl⟩
theorem room_short (text : Array Nat) (seen : Seen) (must first : Bool) (s : Nat) (h : text.size < s + 3) (hs : s < text.size) :
    ∃ seen', ({ look text seen must first s with pc := 11, pos := s + 1 } : Sre.M).step = { look text seen must first s with answer := some false, seen := seen', pc := 11, pos := s + 1 } := by
  refine ⟨seen.add 24, ?_⟩
  rw [step_exec rfl rfl (by show 11 < 29; decide)]
  unfold M.exec
  show (if _ then _ else _) = _
  rw [if_pos (by show ((2 : Nat) : Int) > (text.size : Int) - ((s + 1 : Nat) : Int); omega)]
  rfl
theorem run_two (text : Array Nat) (p : Nat) (seen : Seen) : ∃ seen', Sre.run reCode text 15 2 p 0 seen = .ok (if hexBit (text.getD p 0) then (if hexBit (text.getD (p + 1) 0) then 2 else 1) else 0, seen') := by
  obtain ⟨s1, h1⟩ := accept_in (text.getD p 0) seen
  obtain ⟨s2, h2⟩ := accept_in (text.getD (p + 1) 0) s1
  unfold Sre.run
  rw [h1]
  cases hexBit (text.getD p 0)
  · exact ⟨_, rfl⟩
  · show ∃ seen', Sre.run reCode text 15 1 (p + 1) (0 + 1) s1 = _
    unfold Sre.run
    rw [h2]
    cases hexBit (text.getD (p + 1) 0)
    · exact ⟨_, rfl⟩
    · exact ⟨_, rfl⟩
theorem pair_no (text : Array Nat) (seen : Seen) (must first : Bool) (s : Nat) (h : s + 3 ≤ text.size) (hx : (hexBit (text.getD (s + 1) 0) && hexBit (text.getD (s + 2) 0)) = false) :
    ∃ seen', ({ look text seen must first s with pc := 11, pos := s + 1 } : Sre.M).step = { look text seen must first s with answer := some false, seen := seen', pc := 11, pos := s + 1 } := by
  obtain ⟨s2, h2⟩ := run_two text (s + 1) (((seen.add 24)).add 13)
  refine ⟨s2, ?_⟩
  rw [step_exec rfl rfl (by show 11 < 29; decide)]
  unfold M.exec
  show (if _ then _ else _) = _
  rw [if_neg (by show ¬ ((2 : Nat) : Int) > (text.size : Int) - ((s + 1 : Nat) : Int); omega)]
  have e : min 2 ((text.size : Int) - ((s + 1 : Nat) : Int)).toNat = 2 := by omega
  show (match Sre.run reCode text 15 (min 2 ((text.size : Int) - ((s + 1 : Nat) : Int)).toNat) (s + 1) 0 ((seen.add 24).add 13) with | .error why => _ | .ok (n, seen) => _) = _
  rw [e, h2]
  have e2 : (if hexBit (text.getD (s + 1) 0) = true then (if hexBit (text.getD (s + 1 + 1) 0) = true then 2 else 1) else 0) < 2 := by
    have e3 : s + 1 + 1 = s + 2 := rfl
    rw [e3]
    cases h1 : hexBit (text.getD (s + 1) 0) <;> cases h2 : hexBit (text.getD (s + 2) 0) <;> simp_all
  exact (if_pos e2).trans rfl
theorem pair_yes (text : Array Nat) (seen : Seen) (must first : Bool) (s : Nat) (h : s + 3 ≤ text.size) (hx : (hexBit (text.getD (s + 1) 0) && hexBit (text.getD (s + 2) 0)) = true) :
    ∃ m : Sre.M, ({ look text seen must first s with pc := 11, pos := s + 1 } : Sre.M).step.step.step.step.step = m ∧ m.outcome = some .matched ∧ m.start = s ∧ m.handed = s + 3 ∧ m.lastmark = -1 ∧ m.lastindex = -1 ∧ m.marks = #[] := by
  obtain ⟨s2, h2⟩ := run_two text (s + 1) (((seen.add 24)).add 13)
  obtain ⟨hx1, hx2⟩ := Bool.and_eq_true_iff.mp hx
  have e1 : ({ look text seen must first s with pc := 11, pos := s + 1 } : Sre.M).step = { look text seen must first s with seen := s2, pc := 28, pos := s + 3, handed := s + 3, frames := { wait := .giveBack, pc := 11, pos := s + 3, outermost := first, count := 2 } :: [{ wait := .nextStart, pc := 9, pos := s, outermost := first }], weight := 2 } := by
    rw [step_exec rfl rfl (by first | (show 11 < 29; decide) | (show 28 < 29; decide))]
    unfold M.exec
    show (if _ then _ else _) = _
    rw [if_neg (by show ¬ ((2 : Nat) : Int) > (text.size : Int) - ((s + 1 : Nat) : Int); omega)]
    have e : min 2 ((text.size : Int) - ((s + 1 : Nat) : Int)).toNat = 2 := by omega
    show (match Sre.run reCode text 15 (min 2 ((text.size : Int) - ((s + 1 : Nat) : Int)).toNat) (s + 1) 0 ((seen.add 24).add 13) with | .error why => _ | .ok (n, seen) => _) = _
    have e3 : s + 1 + 1 = s + 2 := rfl
    rw [e, h2, e3, hx1, hx2]
    rfl
  rw [e1]
  have e2 : ({ look text seen must first s with seen := s2, pc := 28, pos := s + 3, handed := s + 3, frames := { wait := .giveBack, pc := 11, pos := s + 3, outermost := first, count := 2 } :: [{ wait := .nextStart, pc := 9, pos := s, outermost := first }], weight := 2 } : Sre.M).step = { look text seen must first s with answer := some true, seen := s2.add 1, pc := 28, pos := s + 3, handed := s + 3, frames := { wait := .giveBack, pc := 11, pos := s + 3, outermost := first, count := 2 } :: [{ wait := .nextStart, pc := 9, pos := s, outermost := first }], weight := 2 } := by
    rw [step_exec rfl rfl (by first | (show 11 < 29; decide) | (show 28 < 29; decide))]
    unfold M.exec
    show (if _ then _ else _) = _
    rw [if_neg (by
      show ¬ (first && ((false && (s + 3 != text.size)) || (must && (s + 3 == s)))) = true
      have : (s + 3 == s) = false := by simp
      rw [this]
      simp)]
    rfl
  rw [e2]
  exact ⟨_, rfl, rfl, rfl, rfl, rfl, rfl, rfl⟩
end Mine
end PartR2
section PartR3
open PySem PySem.W PyProof.Rows PySem.Spec PySem.Calls PySem.Builtin PySem.Builtin.Re
set_option maxRecDepth 100000
set_option maxHeartbeats 4000000
namespace Mine
open PySem.Sre PySem.Sre.M

theorem hexBit_small : ∀ c < 256, hexBit c = isHex c := by decide +kernel
theorem hexBit_eq (c : Nat) : hexBit c = isHex c := by
  by_cases h : c < 256
  · exact hexBit_small c h
  · unfold hexBit isHex
    rw [decide_eq_false h]
    simp
    omega

def isM (text : Array Nat) (s : Nat) : Bool := decide (s + 3 ≤ text.size) && text.getD s 0 == 61 && isHex (text.getD (s + 1) 0) && isHex (text.getD (s + 2) 0)
def nextM (text : Array Nat) : Nat → Nat → Option Nat
  | 0, _ => none
  | n + 1, s => if isM text s then some s else nextM text n (s + 1)

def Found (text : Array Nat) (n s : Nat) (m : Sre.M) : Prop := match nextM text n s with
  | some i => m.outcome = some .matched ∧ m.start = i ∧ m.handed = i + 3 ∧ m.lastmark = -1 ∧ m.lastindex = -1 ∧ m.marks = #[]
  | none => m.outcome = some .failed

theorem runFor_done {m : Sre.M} (h : m.outcome.isSome = true) : ∀ k, runFor k m = m
  | 0 => rfl
  | k + 1 => by unfold runFor; rw [h]; rfl
theorem runFor_step {m : Sre.M} (h : m.outcome = none) (k : Nat) : runFor (k + 1) m = runFor k m.step := by
  conv => lhs; unfold runFor
  rw [h]
  rfl
theorem runFor_add : ∀ (a b : Nat) (m : Sre.M), runFor (a + b) m = runFor b (runFor a m)
  | 0, b, m => by rw [Nat.zero_add]; rfl
  | a + 1, b, m => by
    cases h : m.outcome with
    | some o =>
      have h' : m.outcome.isSome = true := by rw [h]; rfl
      rw [runFor_done h', runFor_done h', runFor_done h']
    | none =>
      rw [show a + 1 + b = (a + b) + 1 by omega, runFor_step h, runFor_step h]
      exact runFor_add a b m.step

def Comes (m : Sre.M) (k : Nat) (P : Sre.M → Prop) : Prop := ∃ j, j ≤ k ∧ P (runFor j m) ∧ (runFor j m).outcome.isSome = true
theorem Comes.step {m : Sre.M} {k : Nat} {P : Sre.M → Prop} (h : m.outcome = none) (c : Comes m.step k P) : Comes m (k + 1) P := by
  obtain ⟨j, hj, hp, ho⟩ := c
  exact ⟨j + 1, by omega, by rw [runFor_step h]; exact hp, by rw [runFor_step h]; exact ho⟩
theorem Comes.done {m : Sre.M} {k : Nat} {P : Sre.M → Prop} (h : m.outcome.isSome = true) (hp : P m) : Comes m k P := ⟨0, Nat.zero_le _, hp, h⟩
theorem Comes.le {m : Sre.M} {k k' : Nat} {P : Sre.M → Prop} (c : Comes m k P) (h : k ≤ k') : Comes m k' P := by
  obtain ⟨j, hj, r⟩ := c
  exact ⟨j, Nat.le_trans hj h, r⟩

theorem step_done {m : Sre.M} (h : m.outcome.isSome = true) : m.step = m := by
  unfold M.step
  rw [if_pos h]
theorem Comes.step' {m : Sre.M} {k : Nat} {P : Sre.M → Prop} (c : Comes m.step k P) : Comes m (k + 1) P := by
  cases h : m.outcome with
  | none => exact Comes.step h c
  | some o =>
    rw [step_done (by rw [h]; rfl)] at c
    exact c.le (Nat.le_succ _)
theorem failed_comes {m : Sre.M} {P : Sre.M → Prop} (h0 : m.outcome = none) (h1 : m.step.outcome = none) (h2 : m.step.step.outcome = some .failed) (hP : ∀ m' : Sre.M, m'.outcome = some .failed → P m') : Comes m 2 P := by
  refine Comes.step h0 (Comes.step h1 (Comes.done (by rw [h2]; rfl) (hP _ h2)))
theorem look_comes (text : Array Nat) : ∀ (n s : Nat) (se : Sre.Seen) (must first : Bool), s + n = text.size → Comes (look text se must first s) (4 * n + 8) (Found text n s)
  | 0, s, se, must, first, h => by
    have hs : s = text.size := by omega
    subst hs
    refine (Comes.step (k := 2) rfl ?_).le (by omega)
    rw [look_end]
    exact failed_comes rfl (by
      rw [step_resume (f := { wait := .nextStart, pc := 9, pos := text.size, outermost := first }) (rest := []) rfl rfl rfl]
      show (if text.size < text.size then _ else _ : Sre.M).outcome = none
      rw [if_neg (Nat.lt_irrefl _)]
      rfl) (look_over text se (se.add 16) must first) (fun m' e => e)
  | n + 1, s, se, must, first, h => by
    have hs : s < text.size := by omega
    have ih := fun se => look_comes text n (s + 1) se false false (by omega)
    have hno : isM text s = false → ∀ k m, Comes m k (Found text n (s + 1)) → Comes m k (Found text (n + 1) s) := by
      rintro hm k m ⟨j, hj, hf, ho⟩
      refine ⟨j, hj, ?_, ho⟩
      unfold Found nextM
      rw [hm]
      exact hf
    by_cases hc : text.getD s 0 = 61
    · refine (Comes.step (k := 4 * n + 11) rfl ?_).le (by omega)
      rw [look_lit text se must first s hs hc]
      by_cases hr : text.size < s + 3
      · refine hno (by unfold isM; rw [decide_eq_false (by omega)]; rfl) _ _ ?_
        obtain ⟨se', h1⟩ := room_short text (se.add 16) must first s hr hs
        refine (Comes.step (k := 4 * n + 9) rfl ?_).le (by omega)
        show Comes (({ look text (se.add 16) must first s with pc := 11, pos := s + 1 } : Sre.M).step) _ _
        rw [h1]
        refine (Comes.step (k := 4 * n + 8) rfl ?_).le (by omega)
        rw [look_next text (se.add 16) se' must first s hs _ rfl]
        exact ih _
      · cases hx : (hexBit (text.getD (s + 1) 0) && hexBit (text.getD (s + 2) 0)) with
        | false =>
          refine hno (by
            rw [hexBit_eq, hexBit_eq] at hx
            unfold isM
            rw [Bool.and_assoc, hx, Bool.and_false]) _ _ ?_
          obtain ⟨se', h1⟩ := pair_no text (se.add 16) must first s (by omega) hx
          refine (Comes.step (k := 4 * n + 9) rfl ?_).le (by omega)
          show Comes (({ look text (se.add 16) must first s with pc := 11, pos := s + 1 } : Sre.M).step) _ _
          rw [h1]
          refine (Comes.step (k := 4 * n + 8) rfl ?_).le (by omega)
          rw [look_next text (se.add 16) se' must first s hs _ rfl]
          exact ih _
        | true =>
          obtain ⟨m, h1, o1, r⟩ := pair_yes text (se.add 16) must first s (by omega) hx
          have hf : Found text (n + 1) s m := by
            have hm : isM text s = true := by
              rw [hexBit_eq, hexBit_eq] at hx
              unfold isM
              rw [Bool.and_assoc, hx, hc, decide_eq_true (by omega)]
              rfl
            unfold Found nextM
            rw [hm]
            exact ⟨o1, r⟩
          show Comes ({ look text (se.add 16) must first s with pc := 11, pos := s + 1 } : Sre.M) _ _
          refine (Comes.step' (Comes.step' (Comes.step' (Comes.step' (Comes.step' (k := 0) ?_))))).le (by omega)
          rw [h1]
          exact Comes.done (by rw [o1]; rfl) hf
    · refine (Comes.step (k := 4 * n + 11) rfl ?_).le (by omega)
      rw [look_no text se must first s hs hc]
      refine hno (by unfold isM; rw [show (text.getD s 0 == 61) = false by simpa using hc]; simp) _ _ ?_
      refine (Comes.step (k := 4 * n + 8) rfl ?_).le (by omega)
      rw [look_next text se (se.add 16) must first s hs _ rfl]
      exact ih _
theorem search_comes (text : Array Nat) (s : Nat) (must : Bool) (hs : s ≤ text.size) : Comes (forSearch reCode text 0 s text.size must) (4 * (text.size - s) + 8) (Found text (text.size - s) s) := by
  by_cases h3 : text.size - s < 3
  · obtain ⟨m, e, h0, h1, h2⟩ := search_short text s must (.inr h3)
    rw [e]
    have hstep : m.step.outcome = some .failed := by
      unfold M.step
      rw [h0, h1, h2]
      rfl
    refine (Comes.step' (k := 0) (Comes.done (by rw [hstep]; rfl) ?_)).le (by omega)
    have hn : ∀ n s, s + n = text.size → n < 3 → nextM text n s = none := by
      intro n
      induction n with
      | zero => intro s _ _; rfl
      | succ n ih =>
        intro s hs hn
        unfold nextM
        rw [show isM text s = false by unfold isM; rw [decide_eq_false (by omega)]; rfl]
        exact ih (s + 1) (by omega) (by omega)
    unfold Found
    rw [hn _ _ (by omega) h3]
    exact hstep
  · rw [search_start text s must hs h3]
    exact look_comes text _ s _ _ _ (by omega)

section
variable {M : Model} {A : Around} {E : Value → Shared → Prop} {s : Shared}
theorem wp_drive {P : Sre.M → Prop} {Q : Sre.M → Shared → Prop} : ∀ (turns : Nat) (m : Sre.M) (k : Nat), Comes m k P → k ≤ 4 * turns → 0 < turns → (∀ m', P m' → m'.outcome.isSome = true → Q m' s) → wpAny M A (reDrive turns m) Q E s
  | 0, _, _, _, _, h0, _ => absurd h0 (Nat.lt_irrefl _)
  | turns + 1, m, k, ⟨j, hj, hp, ho⟩, hk, _, hQ => by
    unfold reDrive
    show wpAny M A (if (runFor 4 m).outcome.isSome = true then pure (runFor 4 m) else do rule "sre.turn"; reDrive turns (runFor 4 m)) Q E s
    by_cases h4 : (runFor 4 m).outcome.isSome = true
    · rw [if_pos h4]
      refine wpAny_pure (hQ _ ?_ h4)
      by_cases hj4 : j ≤ 4
      · have e : runFor 4 m = runFor j m := by
          rw [show 4 = j + (4 - j) by omega, runFor_add, runFor_done ho]
        rw [e]; exact hp
      · have e : runFor j m = runFor 4 m := by
          rw [show j = 4 + (j - 4) by omega, runFor_add, runFor_done h4]
        rw [← e]; exact hp
    · rw [if_neg h4]
      have hj4 : ¬ j ≤ 4 := by
        intro h
        apply h4
        rw [show 4 = j + (4 - j) by omega, runFor_add, runFor_done ho]
        exact ho
      have e : runFor j m = runFor (j - 4) (runFor 4 m) := by
        rw [← runFor_add]
        congr 1
        omega
      rw [e] at hp ho
      exact wpAny_bind (wpAny_rule (wp_drive turns (runFor 4 m) (j - 4) ⟨j - 4, Nat.le_refl _, hp, ho⟩ (by omega) (by omega) hQ))
theorem wp_rules {Q : PUnit → Shared → Prop} (b : Nat → Bool) (tag : Nat → String) : ∀ (l : List Nat), Q PUnit.unit s →
    wpAny M A (forIn l PUnit.unit (fun (i : Nat) (_ : PUnit) => if b i = true then (do PySem.rule (tag i); pure (ForInStep.yield PUnit.unit) : Sem (ForInStep PUnit)) else pure (ForInStep.yield PUnit.unit))) Q E s
  | [], h => by
    rw [List.forIn_nil]
    exact wpAny_pure h
  | i :: l, h => by
    rw [List.forIn_cons]
    refine wpAny_bind ?_
    by_cases hb : b i = true
    · rw [if_pos hb]
      exact wpAny_bind (wpAny_rule (wpAny_pure (wp_rules b tag l h)))
    · rw [if_neg hb]
      exact wpAny_pure (wp_rules b tag l h)

theorem wp_next {text : Array Nat} {st : Nat} {must : Bool} {Q : Option Sre.M → Shared → Prop} (hs : st ≤ text.size) (hl : text.size ≤ 16777216)
    (h1 : ∀ i m, nextM text (text.size - st) st = some i → m.start = i → m.handed = i + 3 → m.lastmark = -1 → m.lastindex = -1 → m.marks = #[] → Q (some m) s)
    (h0 : nextM text (text.size - st) st = none → Q none s) : wpAny M A (reRunToEnd (forSearch reCode text 0 st text.size must)) Q E s := by
  unfold reRunToEnd
  refine wpAny_bind (wp_drive _ _ _ (search_comes text st must hs) (by omega) (by decide) fun m hf ho => ?_)
  refine wpAny_bind (wp_rules _ _ _ ?_)
  unfold Found at hf
  cases hn : nextM text (text.size - st) st with
  | none =>
    rw [hn] at hf
    have hf' : m.outcome = some .failed := hf
    rw [hf']
    exact wpAny_pure (h0 hn)
  | some i =>
    rw [hn] at hf
    obtain ⟨o, a, b, c, d, e⟩ := (hf : m.outcome = some .matched ∧ m.start = i ∧ m.handed = i + 3 ∧ m.lastmark = -1 ∧ m.lastindex = -1 ∧ m.marks = #[])
    rw [o]
    exact wpAny_pure (h1 i m hn a b c d e)
end
end Mine
end PartR3
section PartR4
open PySem PySem.W PyProof.Rows PySem.Spec PySem.Calls PySem.Builtin PySem.Builtin.Re
set_option maxRecDepth 100000
set_option maxHeartbeats 4000000
namespace Mine

def matchObj (x : PySem.Str) (t : Tok) (lim : Nat) (tp : Addr) : Obj := { cls := .type "re.Match", data := .fields #[.str x t, .ref 36, rawInt 0, rawInt lim, rawInt (-1), .ref tp] }
def spanObj (i j : Nat) : Obj := { cls := .type "tuple", data := .seq #[rawInt i, rawInt j] }

section
variable {M : Model} {A : Around} {E : Value → Shared → Prop} {s : Shared}
theorem wp_group {x : PySem.Str} {t k : Tok} {lim i : Nat} {mo tp : Addr} {Q : Fin → Shared → Prop} (hm : s.heap.get? mo = some (matchObj x t lim tp)) (ht : s.heap.get? tp = some (spanObj i (i + 3))) (hl : x.length ≤ 1000)
    (h : Q (.done (.ret (.str (⟨x.cps.extract i (i + 3)⟩ : PySem.Str) s.toks))) { s with toks := s.toks + 1 }) :
    wpAny M A (Builtin.«re.Match.group» ⟨[.ref mo, .int 0 k], []⟩) Q E s := by
  obtain ⟨hp, g, d, tk, os⟩ := s
  unfold Builtin.«re.Match.group»
  repeat (any_goals (first | assumption | wp_step))
  have hsp : Array.map reRawOf ((some #[rawInt (i : Nat), rawInt ((i + 3 : Nat) : Int)]).getD #[]) = #[((i : Nat) : Int), ((i + 3 : Nat) : Int)] := by simp [reRawOf, rawInt]
  rw [hsp]
  refine wpAny_ite_false (decide_eq_false fun e => ?_) ?_
  · have e' : (decide (((i : Nat) : Int) < 0) || decide (((i + 3 : Nat) : Int) < 0)) = true := e
    simp at e'
    omega
  have hz : (⟨x.cps.extract i (i + 3)⟩ : PySem.Str).length ≤ sizeLine := by
    show (x.cps.extract i (i + 3)).size ≤ sizeLine
    have : x.cps.size ≤ 1000 := hl
    rw [sizeLine_eq, Array.size_extract]
    omega
  show wpAny _ _ (do let y ← reTextOf (.str x t); match y with | (text, kind) => reSlice text kind i (i + 3)) _ _ _
  repeat (any_goals (first | assumption | wp_step))
end
end Mine
end PartR4
section PartR5
open PySem PySem.W PyProof.Rows PySem.Spec PySem.Calls PySem.Builtin PySem.Builtin.Re
set_option maxRecDepth 100000
set_option maxHeartbeats 4000000
namespace Mine
def patObj (t1 t2 : Tok) (pt : PySem.Str) : Obj := { cls := .type "re.Pattern", data := .fields #[.str pt t1, .int 256 t2, .int 0 0, .none, .none, .ref 35, .int 0 0] }
def codeObj : Obj := { cls := .type "tuple", data := .seq #[.int 14 0, .int 8 0, .int 1 0, .int 3 0, .int 3 0, .int 1 0, .int 1 0, .int 61 0, .int 0 0, .int 16 0, .int 61 0, .int 24 0, .int 16 0, .int 2 0, .int 2 0, .int 13 0, .int 11 0, .int 9 0, .int 0 0, .int 67043328 0, .int 126 0, .int 126 0, .int 0 0, .int 0 0, .int 0 0, .int 0 0, .int 0 0, .int 1 0, .int 1 0] }

section
variable {M : Model} {A : Around} {E : Value → Shared → Prop} {s : Shared}
theorem code_nats : (Array.map reRawOf ((some #[Value.int 14 0, .int 8 0, .int 1 0, .int 3 0, .int 3 0, .int 1 0, .int 1 0, .int 61 0, .int 0 0, .int 16 0, .int 61 0, .int 24 0, .int 16 0, .int 2 0, .int 2 0, .int 13 0, .int 11 0, .int 9 0, .int 0 0, .int 67043328 0, .int 126 0, .int 126 0, .int 0 0, .int 0 0, .int 0 0, .int 0 0, .int 0 0, .int 1 0, .int 1 0]).getD #[])).map (·.toNat) = reCode := by simp [reRawOf, reCode]
theorem wp_target {x : PySem.Str} {t t1 t2 : Tok} {pt : PySem.Str} {Q : ReTarget → Shared → Prop} (h36 : s.heap.get? 36 = some (patObj t1 t2 pt)) (h35 : s.heap.get? 35 = some codeObj)
    (h : Q { pattern := .ref 36, string := .str x t, code := reCode, text := x.cps, kind := 0, groups := 0, pos := 0, lim := x.cps.size } s) :
    wpAny M A (reWholeTarget (.ref 36) (.str x t)) Q E s := by
  obtain ⟨hp, g, d, tk, os⟩ := s
  unfold reWholeTarget
  repeat (any_goals (first | assumption | wp_step))
  rw [code_nats]
  exact h

theorem wp_push {h₀ : Heap} {L l : Addr} {m : PySem.Str → Option Value} {items : Array Value} {n : Nat} {v : Value} {rest : List (Addr × Obj)} {Q : Unit → Shared → Prop} (F : Fr h₀ L s.heap m) (N : News h₀ L s.heap ((l, listOf items n) :: rest)) (hne : ∀ p ∈ rest, p.1 ≠ l) (hz : items.size ≤ 100000)
    (h : ∀ h', Fr h₀ L h' m → News h₀ L h' ((l, listOf (items.push v) (n + 1)) :: rest) → Q () { s with heap := h' }) : wpAny M A (updateSeq l (·.push v)) Q E s := by
  have z := N (l, listOf items n) (.head _)
  have hs := Heap.SameBut.update s.heap l (Obj.mapSeq (·.push v))
  have ho : (s.heap.update l (Obj.mapSeq (·.push v))).get? l = some (listOf (items.push v) (n + 1)) := by
    rw [Heap.get?_update_self _ z.1 (by rw [mapSeq_push]; rfl), mapSeq_push]
  refine wpAny_updateSeq z.1 rfl (h _ (F.change hs z.2.1 z.2.2) (news_set (pre := []) N (fun _ hp => nomatch hp) hne hs ho)) (by rw [sizeLine_eq]; omega) ?_
  show (items.push v).size ≤ sizeLine + 1
  rw [sizeLine_eq, Array.size_push]
  omega
end

/-! ## what header_decode gives -/
def hdec : List Nat → List Nat
  | [] => []
  | 61 :: a :: b :: r => if isHex a && isHex b then (16 * hv a + hv b) :: hdec r else 61 :: hdec (a :: b :: r)
  | c :: r => c :: hdec r
theorem hdec_cons {c : Nat} {r : List Nat} (h : c ≠ 61) : hdec (c :: r) = c :: hdec r := by
  rw [hdec.eq_3]
  exact fun _ _ _ e => absurd e h
theorem hdec_oct {a b : Nat} {r : List Nat} (h1 : isHex a = true) (h2 : isHex b = true) : hdec (61 :: a :: b :: r) = (16 * hv a + hv b) :: hdec r := by
  rw [hdec.eq_2, h1, h2]; simp
theorem hdec_no {a b : Nat} {r : List Nat} (h : (isHex a && isHex b) = false) : hdec (61 :: a :: b :: r) = 61 :: hdec (a :: b :: r) := by
  rw [hdec.eq_2, if_neg (by rw [h]; exact Bool.false_ne_true)]
theorem hdec_short {r : List Nat} (h : r.length < 2) : hdec (61 :: r) = 61 :: hdec r := by
  rw [hdec.eq_3]
  intro a b r' _ e
  rw [e] at h
  simp at h
  omega
theorem hdec_step (x : PySem.Str) (s : Nat) (hs : s < x.length) (hm : isM x.cps s = false) : hdec (x.cps.toList.drop s) = x.cps.toList[s]'(by rw [cps_length]; exact hs) :: hdec (x.cps.toList.drop (s + 1)) := by
  have hl := cps_length x
  rw [List.drop_eq_getElem_cons (by omega)]
  by_cases hc : x.cps.toList[s]'(by omega) = 61
  · rw [hc]
    by_cases h3 : s + 3 ≤ x.length
    · rw [List.drop_eq_getElem_cons (i := s + 1) (by omega), List.drop_eq_getElem_cons (i := s + 1 + 1) (by omega)]
      refine hdec_no ?_
      unfold isM at hm
      have e0 : x.cps.getD s 0 = 61 := by rw [← hc]; simp [Array.getD, show s < x.cps.size from hs]
      have e1 : x.cps.getD (s + 1) 0 = x.cps.toList[s + 1]'(by omega) := by simp [Array.getD, show s + 1 < x.cps.size from by have : x.cps.size = x.length := rfl; omega]
      have e2 : x.cps.getD (s + 2) 0 = x.cps.toList[s + 1 + 1]'(by omega) := by simp [Array.getD, show s + 2 < x.cps.size from by have : x.cps.size = x.length := rfl; omega]
      rw [e0, e1, e2, decide_eq_true (show s + 3 ≤ x.cps.size from h3)] at hm
      simpa using hm
    · exact hdec_short (by rw [List.length_drop]; omega)
  · exact hdec_cons hc
theorem hdec_match (x : PySem.Str) (s : Nat) (hm : isM x.cps s = true) : s + 3 ≤ x.length ∧ isHex (x.cps.toList.getD (s + 1) 0) = true ∧ isHex (x.cps.toList.getD (s + 2) 0) = true ∧ hdec (x.cps.toList.drop s) = pairVal x s :: hdec (x.cps.toList.drop (s + 3)) := by
  have hl := cps_length x
  unfold isM at hm
  simp only [Bool.and_eq_true, decide_eq_true_eq, beq_iff_eq] at hm
  obtain ⟨⟨⟨h3, h0⟩, h1⟩, h2⟩ := hm
  have h3' : s + 3 ≤ x.length := h3
  have hsz : x.cps.size = x.length := rfl
  have e0 : x.cps.getD s 0 = x.cps.toList[s]'(by omega) := by simp [Array.getD, show s < x.cps.size by omega]
  have e1 : x.cps.getD (s + 1) 0 = x.cps.toList[s + 1]'(by omega) := by simp [Array.getD, show s + 1 < x.cps.size by omega]
  have e2 : x.cps.getD (s + 2) 0 = x.cps.toList[s + 2]'(by omega) := by simp [Array.getD, show s + 2 < x.cps.size by omega]
  rw [e0] at h0
  rw [e1] at h1
  rw [e2] at h2
  have g1 : x.cps.toList.getD (s + 1) 0 = x.cps.toList[s + 1]'(by omega) := by rw [List.getD_eq_getElem?_getD, List.getElem?_eq_getElem (by omega)]; rfl
  have g2 : x.cps.toList.getD (s + 2) 0 = x.cps.toList[s + 2]'(by omega) := by rw [List.getD_eq_getElem?_getD, List.getElem?_eq_getElem (by omega)]; rfl
  refine ⟨h3', by rw [g1]; exact h1, by rw [g2]; exact h2, ?_⟩
  rw [List.drop_eq_getElem_cons (by omega), h0, List.drop_eq_getElem_cons (i := s + 1) (by omega), List.drop_eq_getElem_cons (i := s + 1 + 1) (by omega), hdec_oct h1 h2]
  unfold pairVal
  rw [g1, g2]
theorem next_none (x : PySem.Str) : ∀ (n s : Nat), s + n = x.length → nextM x.cps n s = none → hdec (x.cps.toList.drop s) = x.cps.toList.drop s
  | 0, s, h, _ => by
    rw [List.drop_eq_nil_of_le (by rw [cps_length]; omega)]
    rfl
  | n + 1, s, h, hn => by
    unfold nextM at hn
    cases hm : isM x.cps s with
    | true => rw [hm] at hn; cases hn
    | false =>
      rw [hm] at hn
      have ih := next_none x n (s + 1) (by omega) hn
      rw [hdec_step x s (by omega) hm, ih, ← List.drop_eq_getElem_cons (by rw [cps_length]; omega)]
theorem next_some (x : PySem.Str) : ∀ (n s i : Nat), s + n = x.length → nextM x.cps n s = some i → s ≤ i ∧ isM x.cps i = true ∧ hdec (x.cps.toList.drop s) = (x.cps.toList.drop s).take (i - s) ++ hdec (x.cps.toList.drop i)
  | 0, s, i, h, hn => by cases hn
  | n + 1, s, i, h, hn => by
    unfold nextM at hn
    cases hm : isM x.cps s with
    | true =>
      rw [hm] at hn
      have e : s = i := Option.some.inj hn
      subst e
      exact ⟨Nat.le_refl _, hm, by simp⟩
    | false =>
      rw [hm] at hn
      obtain ⟨h1, h2, h3⟩ := next_some x n (s + 1) i (by omega) hn
      refine ⟨by omega, h2, ?_⟩
      rw [hdec_step x s (by omega) hm, h3]
      have e : i - s = (i - (s + 1)) + 1 := by omega
      rw [e]
      conv => rhs; rw [List.drop_eq_getElem_cons (i := s) (by rw [cps_length]; omega)]
      simp
end Mine
end PartR5
section PartR6
open PySem PySem.W PyProof.Rows PySem.Spec PySem.Calls PySem.Builtin PySem.Builtin.Re
set_option maxRecDepth 100000
set_option maxHeartbeats 4000000
namespace Mine
section
variable {prog : Program} {w : World} {A : Around} {h₀ : Heap} {L : Addr} {m : PySem.Str → Option Value} {news : List (Addr × Obj)} {x : PySem.Str} {t t1 t2 : Tok} {pt : PySem.Str}

theorem extract_list (a : Array Nat) (b e : Nat) : (a.extract b e).toList = (a.toList.drop b).take (e - b) := by
  rw [Array.toList_extract]
theorem join_flat : ∀ ss : List PySem.Str, (Str.join (⟨#[]⟩ : PySem.Str) ss).cps.toList = (ss.map (·.cps.toList)).flatten
  | [] => rfl
  | [a] => by simp [Str.join]
  | a :: b :: r => by
    have ih := join_flat (b :: r)
    show (a ++ (⟨#[]⟩ : PySem.Str) ++ Str.join ⟨#[]⟩ (b :: r)).cps.toList = _
    rw [cat_cps, cat_cps, ih]
    simp
theorem flat_len : ∀ ss : List PySem.Str, (ss.map (·.length)).sum = ((ss.map (·.cps.toList)).flatten).length
  | [] => rfl
  | a :: r => by
    have ih := flat_len r
    simp only [List.map_cons, List.sum_cons, List.flatten_cons, List.length_append, ih, cps_length]
theorem hdec_len : ∀ l : List Nat, (hdec l).length ≤ l.length := by
  intro l
  fun_induction hdec l <;> simp_all <;> omega
theorem strsAre_snoc {items : List Value} {ss : List PySem.Str} (h : StrsAre items ss) (y : PySem.Str) (u : Tok) : StrsAre (items ++ [.str y u]) (ss ++ [y]) := StrsAre.append' h (.cons _ _ .nil)
theorem wp_push_if {α : Type} {M : Model} {B : Around} {E : Value → Shared → Prop} {Q : α → Shared → Prop} {s : Shared} {b e : Nat} {T : Sem α} {items : List Value} {ss : List PySem.Str} {cnt : Nat} {l : Addr} (F : Fr h₀ L s.heap m) (N : News h₀ L s.heap ((l, listOf items.toArray cnt) :: news)) (hne : ∀ p ∈ news, p.1 ≠ l)
    (hss : StrsAre items ss) (hz : items.length ≤ 50000) (hx : x.length ≤ 1000)
    (h : ∀ (h' : Heap) (tk' : Nat) (items' : List Value) (ss' : List PySem.Str) (cnt' : Nat), StrsAre items' ss' → items'.length ≤ items.length + 1 → (ss'.map (·.cps.toList)).flatten = (ss.map (·.cps.toList)).flatten ++ (x.cps.extract b e).toList →
      Fr h₀ L h' m → News h₀ L h' ((l, listOf items'.toArray cnt') :: news) → wpAny M B T Q E { s with heap := h', toks := tk' }) :
    wpAny M B (if b < e then (reSlice x.cps 0 b e >>= fun v => updateSeq l (fun xs => xs.push v) >>= fun _ => T) else T) Q E s := by
  refine wpAny_ite_split (fun hlt => ?_) (fun hlt => ?_)
  · refine wpAny_bind (wpAny_mkStr ?_ ?_)
    · refine wpAny_bind (wp_push F N hne (by rw [List.size_toArray]; omega) fun h' F' N' => ?_)
      refine h h' _ (items ++ [.str ⟨x.cps.extract b e⟩ s.toks]) (ss ++ [⟨x.cps.extract b e⟩]) (cnt + 1) (strsAre_snoc hss _ _) (by simp) (by simp) F' ?_
      rw [List.push_toArray] at N'
      exact N'
    · show (x.cps.extract b e).size ≤ sizeLine
      have : x.cps.size ≤ 1000 := hx
      rw [sizeLine_eq, Array.size_extract]
      omega
  · refine h s.heap s.toks items ss cnt hss (by omega) ?_ F N
    have e0 : (x.cps.extract b e).toList = [] := by
      simp
      omega
    rw [e0, List.append_nil]

abbrev loopArgs (x : PySem.Str) (t : Tok) (k st : Nat) (l : Addr) : Args := ⟨[.ref 36, .str x t, .ref 58, rawInt 1, rawInt 0, rawInt k, rawInt st, rawInt st, .bool false, .ref l, .bool false], []⟩

theorem sub_loop (h36 : h₀.get? 36 = some (patObj t1 t2 pt)) (h35 : h₀.get? 35 = some codeObj) (hx : x.length ≤ 1000)
    (hcall : ∀ (i : Nat) (s : Shared) (news' : List (Addr × Obj)) (mo tp : Addr) (Q E : Value → Shared → Prop), isM x.cps i = true → Fr h₀ L s.heap m → News h₀ L s.heap news' → (mo, matchObj x t x.cps.size tp) ∈ news' → (tp, spanObj i (i + 3)) ∈ news' →
      CbRet h₀ L m news' s Q (fun t => .str ⟨#[pairVal x i]⟩ t) → wpAny (model prog w) A.in1 (call (.ref 58) [.ref mo]) Q E s) :
    ∀ (n st k : Nat) (items : List Value) (ss : List PySem.Str) (cnt : Nat) (l : Addr) (s : Shared) (R : Result → Shared → Prop), st + n = x.length → StrsAre items ss → (ss.map (·.cps.toList)).flatten ++ hdec (x.cps.toList.drop st) = hdec x.cps.toList → items.length ≤ 2 * st →
      Fr h₀ L s.heap m → News h₀ L s.heap ((l, listOf items.toArray cnt) :: news) → (∀ p ∈ news, p.1 ≠ l) →
      (∀ (t' : Tok) (h' : Heap) (tk' : Nat), Fr h₀ L h' m → News h₀ L h' news → R (.ok (.ret (.str ⟨(hdec x.cps.toList).toArray⟩ t'))) { s with heap := h', toks := tk' }) →
      codeAny (model prog w) A (.builtin "re.Pattern.sub.loop" (loopArgs x t k st l)) R s := by
  intro n
  induction n using Nat.strongRecOn with
  | ind n ih =>
    intro st k items ss cnt l s R hst hss hfl hil F N hne hret
    have hsz : x.cps.size = x.length := rfl
    refine codeAny_builtin entry_subloop ?_
    rw [Around.under_plainId plain_subloop]
    unfold Builtin.«re.Pattern.sub.loop»
    refine wpAny_bind (wp_target (F.keep _ _ h36) (F.keep _ _ h35) ?_)
    repeat (any_goals ((fail_if_success (with_reducible show wpAny _ _ (reNextFound _ _ _) _ _ _)); (first | assumption | wp_step)))
    have hst0 : ((st : Nat) : Int).toNat = st := Int.toNat_natCast st
    show wpAny _ _ (reRunToEnd (Sre.forSearch reCode x.cps 0 ((st : Nat) : Int).toNat x.cps.size false)) _ _ _
    rw [hst0]
    refine wp_next (by omega) (by omega) ?_ ?_
    · intro i mm hn e1 e2 e3 e4 e5
      have hn' : nextM x.cps n st = some i := by rw [show n = x.cps.size - st by omega]; exact hn
      obtain ⟨hsi, hmi, hdi⟩ := next_some x n st i hst hn'
      obtain ⟨hi3, -, -, hdm⟩ := hdec_match x i hmi
      dsimp only
      rw [e1, e2]
      refine wp_push_if (x := x) (ss := ss) F N hne hss (by omega) hx ?_
      intro h1 tk1 items1 ss1 cnt1 hss1 hil1 hcat1 F1 N1
      repeat (any_goals ((fail_if_success (with_reducible show wpAny _ _ (reNewMatch _ _ _ _ _ _) _ _ _)); (first | assumption | wp_step)))
      unfold reNewMatch
      dsimp only
      rw [e1, e2, e4]
      refine wpAny_bind ?_
      show wpAny _ _ (newTuple [rawInt (i : Nat), rawInt ((i + 3 : Nat) : Int)]) _ _ _
      refine newTuple_N F1 N1 (fun h2 F2 N2 => ?_) (by rw [sizeLine_eq]; exact Nat.le_of_ble_eq_true rfl)
      refine wpAny_newObj_type ?_ (by show 6 ≤ sizeLine + 2; rw [sizeLine_eq]; decide)
      have F3 := F2.push (matchObj x t x.cps.size h1.objs.size)
      have N3 := N2.push F2 (matchObj x t x.cps.size h1.objs.size)
      refine wpAny_bind (wpAny_holding (wpAny_ite_true (by rfl) ?_))
      refine hcall i _ _ _ h1.objs.size _ _ hmi F3 N3 (.head _) (.tail _ (.head _)) fun t9 h9 tk9 F9 N9 => ?_
      refine wpAny_ite_true (by rfl) (wpAny_bind ?_)
      have N9' : News h₀ L h9 ((l, listOf items1.toArray cnt1) :: news) := fun p hp => N9 p (List.mem_cons_of_mem _ (List.mem_cons_of_mem _ hp))
      refine wp_push F9 N9' hne (by rw [List.size_toArray]; omega) fun h5 F5 N5 => ?_
      rw [List.push_toArray] at N5
      refine wpAny_pure ⟨plainId_quiet plain_subloop _, ?_⟩
      have hb : (i + 3 == i) = false := by simp
      rw [hb]
      refine ih (x.length - (i + 3)) (by omega) (i + 3) (k + 1) (items1 ++ [.str ⟨#[pairVal x i]⟩ t9]) (ss1 ++ [⟨#[pairVal x i]⟩]) _ l _ R (by omega) (strsAre_snoc hss1 _ _) ?_ (by rw [List.length_append, List.length_singleton]; omega) F5 N5 hne ?_
      · rw [List.map_append, List.flatten_append, hcat1, ← hfl, hdi, extract_list, hdm]
        simp
      · intro t' h' tk' F' N'
        exact hret t' h' tk' F' N'
    · intro hn
      have hn' : nextM x.cps n st = none := by rw [show n = x.cps.size - st by omega]; exact hn
      have hd := next_none x n st hst hn'
      dsimp only
      refine wp_push_if (x := x) (ss := ss) F N hne hss (by omega) hx ?_
      intro h1 tk1 items1 ss1 cnt1 hss1 hil1 hcat1 F1 N1
      have hfl1 : (ss1.map (·.cps.toList)).flatten = hdec x.cps.toList := by
        rw [hcat1, ← hfl, hd, extract_list, List.take_of_length_le (by rw [List.length_drop, cps_length]; omega)]
      have hgl : h1.get? l = some (listOf items1.toArray cnt1) := (N1 _ (.head _)).1
      have e00 : x.cps.extract 0 0 = #[] := by simp
      refine wpAny_bind (wpAny_mkStr ?_ ?_)
      · rw [e00]
        refine wpAny_bind (wpAny_bind (wpAny_load hgl (wpAny_pure ?_)))
        cases items1 with
        | nil =>
          cases hss1
          refine wpAny_ite_true (by rfl) (wpAny_bind (wpAny_pure (wpAny_ite_false (by decide) (wpAny_pure ?_))))
          have e9 : hdec x.cps.toList = [] := by rw [← hfl1]; rfl
          have hr := hret tk1 h1 (tk1 + 1) F1 fun p hp => N1 p (List.mem_cons_of_mem _ hp)
          rw [e9] at hr
          exact hr
        | cons v vs =>
          refine wpAny_ite_false (by rfl) (wpAny_bind ?_)
          have hdl := hdec_len x.cps.toList
          have hls := flat_len ss1
          rw [hfl1] at hls
          have hxl := cps_length x
          refine join_list (items := (v :: vs).toArray) (ys := ss1) ⟨_, hgl, rfl, _, rfl⟩ hss1 (by
            show _ + _ * (#[] : Array Nat).size ≤ _
            have : (#[] : Array Nat).size = 0 := rfl
            rw [this]
            omega) fun t' k' => ?_
          have e9 : Txt.join (⟨#[]⟩ : PySem.Str) ss1 = ⟨(hdec x.cps.toList).toArray⟩ := by
            apply str_ext
            show (PySem.Builtin.Str.glued _ _).cps.toList = _
            rw [StrLaws.glued_eq_join, join_flat, hfl1]
          rw [e9]
          exact wpAny_ite_false (by decide) (wpAny_pure (hret t' h1 k' F1 fun p hp => N1 p (List.mem_cons_of_mem _ hp)))
      · show (x.cps.extract 0 0).size ≤ sizeLine
        rw [e00, sizeLine_eq]
        decide
end
end Mine
end PartR6
section PartR7
open PySem PySem.W PyProof.Rows PySem.Spec PySem.Calls PySem.Builtin PySem.Builtin.Re
set_option maxRecDepth 100000
set_option maxHeartbeats 4000000
namespace Mine
theorem fn_call_lookup : typeLookup (.type "function") "__call__" = pure (some (.builtin "function.__call__")) := by rw [typeLookup_type, builtinLookup_eq_fast]; kernel_rfl
theorem str_no_bytearray : isSubtype (.type "str") (.type "bytearray") = pure false := by rw [isSubtype_type]; kernel_rfl
section
variable {prog : Program} {w : World} {A : Around} {h₀ : Heap} {L : Addr} {m : PySem.Str → Option Value} {news : List (Addr × Obj)} {x : PySem.Str} {t t1 t2 : Tok} {pt : PySem.Str} {s : Shared} {Q E : Value → Shared → Prop}

theorem call_sub (h36 : h₀.get? 36 = some (patObj t1 t2 pt)) (h35 : h₀.get? 35 = some codeObj) (h58 : ∃ o, h₀.get? 58 = some o ∧ o.cls = .type "function") (hx : x.length ≤ 1000)
    (hcall : ∀ (i : Nat) (s : Shared) (news' : List (Addr × Obj)) (mo tp : Addr) (Q E : Value → Shared → Prop), isM x.cps i = true → Fr h₀ L s.heap m → News h₀ L s.heap news' → (mo, matchObj x t x.cps.size tp) ∈ news' → (tp, spanObj i (i + 3)) ∈ news' →
      CbRet h₀ L m news' s Q (fun t => .str ⟨#[pairVal x i]⟩ t) → wpAny (model prog w) A.in1 (call (.ref 58) [.ref mo]) Q E s)
    (F : Fr h₀ L s.heap m) (N : News h₀ L s.heap news)
    (hret : ∀ (t' : Tok) (h' : Heap) (tk' : Nat), Fr h₀ L h' m → News h₀ L h' news → Q (.str ⟨(hdec x.cps.toList).toArray⟩ t') { s with heap := h', toks := tk' }) :
    wpAny (model prog w) A (call (.builtin "re.Pattern.sub") [.ref 36, .ref 58, .str x t]) Q E s := by
  have hT : s.TypeIs (.ref 36) "re.Pattern" := ⟨_, F.keep _ _ h36, rfl⟩
  obtain ⟨o58, ho58, hc58⟩ := h58
  have hF : s.TypeIs (.ref 58) "function" := ⟨o58, F.keep _ _ ho58, hc58⟩
  refine wpAny_call (codeAny_call_builtin slot_sub.plain entry_sub (slot_sub.check _ _ _ _ _ _ _ _ hT (args_sub _ _ _) ?_))
  have f1 := fn_call_lookup
  have f2 := str_no_bytearray
  unfold Builtin.«re.Pattern.sub» reSubstitute
  have hX : s.TypeIs (.str x t) "str" := typeIs_str _ _ _
  repeat (any_goals ((fail_if_success (with_reducible show wpAny _ _ (reWholeTarget _ _) _ _ _)); (first | assumption | wp_step)))
  refine wp_target (F.keep _ _ h36) (F.keep _ _ h35) ?_
  repeat (any_goals ((fail_if_success (with_reducible show wpAny _ _ (newList _) _ _ _)); (first | assumption | wp_step)))
  refine newList_N F N (fun h' F' N' => ?_) (by decide)
  refine wpAny_pure ⟨plainId_quiet plain_subloop _, ?_⟩
  refine sub_loop h36 h35 hx hcall x.length 0 0 [] [] 0 s.heap.objs.size _ _ (by omega) .nil (by simp) (by simp) F' N' (fun p hp => Nat.ne_of_lt (Heap.lt_size (N p hp).1)) ?_
  intro t' h' tk' F' N'
  exact hret t' h' tk' F' N'

theorem get_sub {pl : Sem Bool} {Q : Value × List Value → Shared → Prop} (h36 : h₀.get? 36 = some (patObj t1 t2 pt)) (F : Fr h₀ L s.heap m) (h : Q (.builtin "re.Pattern.sub", [.ref 36]) s) : wpAny (model prog w) A (getMethod (.ref 36) "sub" pl) Q E s :=
  getMethod_builtin ⟨_, F.keep _ _ h36, rfl⟩ plain_pattern slot_sub type_sub (fun a e => by cases e; exact ⟨_, F.keep _ _ h36, rfl⟩) h
theorem get_group {lim : Nat} {mo tp : Addr} {pl : Sem Bool} {Q : Value × List Value → Shared → Prop} (N : News h₀ L s.heap news) (hm : (mo, matchObj x t lim tp) ∈ news) (h : Q (.builtin "re.Match.group", [.ref mo]) s) : wpAny (model prog w) A (getMethod (.ref mo) "group" pl) Q E s :=
  getMethod_builtin ⟨_, (N _ hm).1, rfl⟩ plain_match slot_group type_group (fun a e => by cases e; exact ⟨_, (N _ hm).1, rfl⟩) h
theorem call_group {lim i : Nat} {mo tp : Addr} {k : Tok} (N : News h₀ L s.heap news) (hm : (mo, matchObj x t lim tp) ∈ news) (ht : (tp, spanObj i (i + 3)) ∈ news) (hx : x.length ≤ 1000)
    (h : ∀ t' tk', Q (.str (⟨x.cps.extract i (i + 3)⟩ : PySem.Str) t') { s with toks := tk' }) : wpAny (model prog w) A (call (.builtin "re.Match.group") [.ref mo, .int 0 k]) Q E s := by
  refine wpAny_call (codeAny_call_builtin slot_group.plain entry_group (slot_group.check _ _ _ _ _ _ _ _ ⟨_, (N _ hm).1, rfl⟩ (args_group _ _) ?_))
  exact wp_group (N _ hm).1 (N _ ht).1 hx (h _ _)
end
theorem ext_slice {x : PySem.Str} {i : Nat} (h : i + 3 ≤ x.length) (hb : isHex (x.cps.toList.getD (i + 1) 0) = true) (hc : isHex (x.cps.toList.getD (i + 2) 0) = true) :
    int16? (Txt.slice (⟨x.cps.extract i (i + 3)⟩ : PySem.Str) (some 1) (some 3)) = some ((pairVal x i : Nat) : Int) ∧ pairVal x i < 256 := by
  have hl := cps_length x
  have g1 : x.cps.toList.getD (i + 1) 0 = x.cps.toList[i + 1]'(by omega) := by rw [List.getD_eq_getElem?_getD, List.getElem?_eq_getElem (by omega)]; rfl
  have g2 : x.cps.toList.getD (i + 2) 0 = x.cps.toList[i + 2]'(by omega) := by rw [List.getD_eq_getElem?_getD, List.getElem?_eq_getElem (by omega)]; rfl
  have e1 : (⟨x.cps.extract i (i + 3)⟩ : PySem.Str).cps.toList = [x.cps.toList[i]'(by omega), x.cps.toList[i + 1]'(by omega), x.cps.toList[i + 2]'(by omega)] := by
    show (x.cps.extract i (i + 3)).toList = _
    rw [extract_list, List.drop_eq_getElem_cons (by omega), List.drop_eq_getElem_cons (i := i + 1) (by omega), List.drop_eq_getElem_cons (i := i + 1 + 1) (by omega)]
    have e : i + 3 - i = 3 := by omega
    rw [e]
    simp
  have l1 : (⟨x.cps.extract i (i + 3)⟩ : PySem.Str).length = 3 := by rw [← cps_length, e1]; rfl
  have s2 : (Txt.slice (⟨x.cps.extract i (i + 3)⟩ : PySem.Str) (some 1) (some 3)).cps.toList = [x.cps.toList[i + 1]'(by omega), x.cps.toList[i + 2]'(by omega)] := by
    rw [slice_cps, e1, l1]
    rfl
  rw [g1] at hb
  rw [g2] at hc
  have h := hex_pair s2 hb hc
  unfold pairVal
  rw [g1, g2]
  exact h
end Mine
end PartR7
section PartR8
open PySem PySem.W PyProof.Rows PySem.Spec PySem.Calls
set_option maxRecDepth 100000
set_option maxHeartbeats 4000000
namespace Mine
def swap1 (c d : Nat) (k : Nat) : Nat := if k = c then d else k
theorem swap_free {c d : Nat} : ∀ l : List Nat, c ∉ l → l.map (swap1 c d) = l
  | [], _ => rfl
  | a :: r, h => by
    simp only [List.mem_cons, not_or] at h
    rw [List.map_cons, swap_free r h.2]
    unfold swap1
    rw [if_neg (fun e => h.1 e.symm)]
theorem swap_join (c d : Nat) : ∀ parts : List Str, (∀ p ∈ parts, c ∉ p.cps.toList) → (Str.join ⟨#[c]⟩ parts).cps.toList.map (swap1 c d) = (Str.join ⟨#[d]⟩ parts).cps.toList
  | [], _ => rfl
  | [a], h => swap_free _ (h a (.head _))
  | a :: b :: r, h => by
    have ih := swap_join c d (b :: r) fun p hp => h p (.tail _ hp)
    show (a ++ (⟨#[c]⟩ : Str) ++ Str.join ⟨#[c]⟩ (b :: r)).cps.toList.map (swap1 c d) = (a ++ (⟨#[d]⟩ : Str) ++ Str.join ⟨#[d]⟩ (b :: r)).cps.toList
    rw [cat_cps, cat_cps, cat_cps, cat_cps, List.map_append, List.map_append, ih, swap_free _ (h a (.head _))]
    simp [swap1]
theorem replace_map (x : Str) (c d : Nat) : (Txt.replace x ⟨#[c]⟩ ⟨#[d]⟩).cps.toList = x.cps.toList.map (swap1 c d) := by
  rw [StrLaws.replace_one]
  rw [← swap_join c d _ (StrLaws.split_free x c)]
  rw [StrLaws.join_split]
theorem under_cps : Str.ofString "_" = ⟨#[95]⟩ := by decide +kernel
theorem blank_cps : Str.ofString " " = ⟨#[32]⟩ := by decide +kernel
theorem replace_len (x : Str) : (Txt.replace x (Str.ofString "_") (Str.ofString " ")).length = x.length := by
  rw [← cps_length, ← cps_length, under_cps, blank_cps, replace_map, List.length_map]
/-- what header_decode gives -/
def hdrL (l : List Nat) : List Nat := hdec (l.map (swap1 95 32))
def hdrS (x : Str) : Str := ⟨(hdrL x.cps.toList).toArray⟩
theorem hdr_eq (x : Str) : (⟨(hdec (Txt.replace x (Str.ofString "_") (Str.ofString " ")).cps.toList).toArray⟩ : Str) = hdrS x := by
  unfold hdrS hdrL
  rw [under_cps, blank_cps, replace_map]
end Mine
end PartR8
section PartV
open PySem PySem.W PyProof.Rows PySem.Spec PySem.Calls PySem.Builtin.Str
set_option maxRecDepth 100000
set_option maxHeartbeats 4000000
namespace Mine
def whiteB (c : Nat) : Bool := (9 ≤ c && c ≤ 13) || (28 ≤ c && c ≤ 32) || c == 133 || (8192 ≤ c && c ≤ 8202) || c == 160 || c == 5760 || c == 8239 || c == 8287 || c == 12288
def endB (c : Nat) : Bool := c == 13 || c == 11 || c == 12 || c == 28 || c == 29 || c == 30 || c == 133
def looseB (c : Nat) : Bool := c == 61 || (c != 10 && !endB c && whiteB c)
def farL (l : List Nat) : Bool := match l.getLast? with | some c => decide (255 < c) && whiteB c | none => false
def escL (l : List Nat) (k : Nat) : Bool := l.getD k 0 == 61 && isHex (l.getD (k + 1) 0) && isHex (l.getD (k + 2) 0)
def fig (d : Nat) : Nat := if d < 10 then 48 + d else 55 + d

theorem occ_of (Z : Str) {y : Str} {c : Nat} (h : y.cps.toList = [c]) : (occurrences Z y 0 Z.length 1).isEmpty = !(decide (c ∈ Z.cps.toList)) := by
  have q := StrLaws.found_one Z c
  rw [one_sign h, ← q, Bool.not_not]
theorem eq_lit {y : Str} {c d : Nat} (h : y.cps.toList = [c]) : (y == (⟨#[d]⟩ : Str)) = (c == d) := by
  have q := ne_sign (d := d) h
  have e : (y == (⟨#[d]⟩ : Str)) = !(y != (⟨#[d]⟩ : Str)) := by simp [bne]
  rw [e, q]
  by_cases hc : c = d <;> simp [hc]
theorem nl_lit : Str.ofString "\n" = (⟨#[10]⟩ : Str) := by decide +kernel
theorem und_lit : Str.ofString "_" = (⟨#[95]⟩ : Str) := by decide +kernel
theorem ends_lit : (Str.ofString "\r\x0b\x0c\x1c\x1d\x1e\u0085").cps.toList = [13, 11, 12, 28, 29, 30, 133] := by decide +kernel
theorem hexs_lit : (Str.ofString "0123456789ABCDEFabcdef").cps.toList = [48,49,50,51,52,53,54,55,56,57,65,66,67,68,69,70,97,98,99,100,101,102] := by decide +kernel
theorem s_eq {y : Str} {c : Nat} (h : y.cps.toList = [c]) : (y == Str.ofString "=") = (c == 61) := by rw [eq_sign_lit, eq_lit h]
theorem s_nl {y : Str} {c : Nat} (h : y.cps.toList = [c]) : (y == Str.ofString "\n") = (c == 10) := by rw [nl_lit, eq_lit h]
theorem s_nnl {y : Str} {c : Nat} (h : y.cps.toList = [c]) : (y != Str.ofString "\n") = (c != 10) := by simp [bne, s_nl h]
theorem s_und {y : Str} {c : Nat} (h : y.cps.toList = [c]) : (y == Str.ofString "_") = (c == 95) := by rw [und_lit, eq_lit h]
theorem s_end {y : Str} {c : Nat} (h : y.cps.toList = [c]) : (occurrences (Str.ofString "\r\x0b\x0c\x1c\x1d\x1e\u0085") y 0 (Str.ofString "\r\x0b\x0c\x1c\x1d\x1e\u0085").length 1).isEmpty = !(endB c) := by
  rw [occ_of _ h, ends_lit]
  congr 1
  rw [Bool.eq_iff_iff]
  unfold endB
  simp [or_assoc]
theorem s_hex {y : Str} {c : Nat} (h : y.cps.toList = [c]) : (occurrences (Str.ofString "0123456789ABCDEFabcdef") y 0 (Str.ofString "0123456789ABCDEFabcdef").length 1).isEmpty = !(isHex c) := by
  rw [occ_of _ h, hexs_lit]
  congr 1
  rw [Bool.eq_iff_iff]
  unfold isHex
  simp only [List.mem_cons, List.not_mem_nil, or_false, Bool.or_eq_true, Bool.and_eq_true, decide_eq_true_eq]
  omega
theorem s_full {x : Str} : (x != Str.ofString "") = decide (x.length ≠ 0) := by
  have e : (Str.ofString "") = (⟨#[]⟩ : Str) := by decide +kernel
  rw [e]
  obtain ⟨a⟩ := x
  by_cases h : a.size = 0
  · have : a = #[] := Array.size_eq_zero_iff.mp h
    subst this
    simp [Str.length]
  · have : a ≠ #[] := fun q => h (by rw [q]; rfl)
    simp [Str.length, this]
theorem item_at {x : Str} {k : Int} (h0 : 0 ≤ k) (h1 : k < x.length) : (Txt.item x k).cps.toList = [x.cps.toList.getD k.toNat 0] := by
  have hl := cps_length x
  rw [item_cps h0 h1, List.getD_eq_getElem?_getD, List.getElem?_eq_getElem (by omega)]
  rfl
theorem slice_one {x : Str} {j e : Int} (h0 : 0 ≤ j) (he : e = j + 1) : (Txt.slice x (some j) (some e) != Str.ofString "") = decide (j < x.length) := by
  rw [s_full]
  have hl := cps_length x
  have h := congrArg List.length (slice_cps x (some j) (some e))
  rw [cps_length, List.length_drop, List.length_take] at h
  have c1 : clipN (some j) 0 x.length = min j.toNat x.length := by unfold clipN; simp only; omega
  have c2 : clipN (some e) x.length x.length = min (j.toNat + 1) x.length := by unfold clipN; simp only; omega
  rw [c1, c2] at h
  rw [h]
  rw [Bool.eq_iff_iff]
  simp only [decide_eq_true_eq]
  omega
theorem figs : ∀ c : Nat, c < 256 → (Str.ofString "=" ++ Txt.item (Str.ofString "0123456789ABCDEF") (Int.fdiv (c : Int) 16) ++ Txt.item (Str.ofString "0123456789ABCDEF") (Int.fmod (c : Int) 16)) = (⟨#[61, fig (c / 16), fig (c % 16)]⟩ : Str) := by
  decide +kernel
end Mine
end PartV
section PartV2
open PySem PySem.W PyProof.Rows PySem.Spec PySem.Calls PySem.Builtin.Str
set_option maxRecDepth 100000
set_option maxHeartbeats 4000000
namespace Mine
def priceB (l : List Nat) (k : Nat) : Bool := escL l k || l.getD k 0 == 95 || endB (l.getD k 0)
def softB (l : List Nat) (k : Nat) : Bool := l.getD k 0 == 10 && decide (0 < k) && looseB (l.getD (k - 1) 0)
def lastB (l : List Nat) (k : Nat) : Bool := decide (k + 1 = l.length) && looseB (l.getD k 0) && decide (l.getD k 0 < 256)
def octL (c : Nat) : List Nat := [61, fig (c / 16), fig (c % 16)]
def spellAt (l : List Nat) (k : Nat) : List Nat :=
  if priceB l k || lastB l k then octL (l.getD k 0) else if softB l k then [61, 48, 65] else [l.getD k 0]
def spellTo (l : List Nat) (n : Nat) : List Nat := (List.range n).flatMap (spellAt l)
def spellL (l : List Nat) : List Nat := spellTo l l.length
def costAt (l : List Nat) (k : Nat) : Nat := if priceB l k || softB l k then 2 else 0
def costTo (l : List Nat) (n : Nat) : Nat := ((List.range n).map (costAt l)).sum
def looseEnd (l : List Nat) : Bool := match l.getLast? with | some c => looseB c | none => false
def countL (l : List Nat) : Nat := l.length + costTo l l.length + (if looseEnd l then 2 else 0)
theorem spellTo_succ (l : List Nat) (n : Nat) : spellTo l (n + 1) = spellTo l n ++ spellAt l n := by
  unfold spellTo
  rw [List.range_succ, List.flatMap_append]
  simp
theorem costTo_succ (l : List Nat) (n : Nat) : costTo l (n + 1) = costTo l n + costAt l n := by
  unfold costTo
  rw [List.range_succ, List.map_append, List.sum_append]
  simp
end Mine
end PartV2
section PartV3
open PySem PySem.W PyProof.Rows PySem.Spec PySem.Calls PySem.Builtin.Str
set_option maxRecDepth 100000
set_option maxHeartbeats 4000000
namespace Mine
theorem fig_len (c : Nat) : (octL c).length = 3 := rfl
theorem spellAt_len (l : List Nat) (k : Nat) : (spellAt l k).length ≤ 3 := by
  unfold spellAt
  split
  · exact Nat.le_refl _
  · split <;> simp
theorem spellTo_len (l : List Nat) : ∀ n, (spellTo l n).length ≤ 3 * n
  | 0 => Nat.le_refl _
  | n + 1 => by
    have h1 := spellTo_len l n
    have h2 := spellAt_len l n
    rw [spellTo_succ, List.length_append]
    omega
section
variable {x : Str} {j : Nat}
theorem p_esc (h : escL x.cps.toList (j : Int).toNat = true) : priceB x.cps.toList j = true := by
  rw [Int.toNat_natCast] at h; unfold priceB; rw [h]; rfl
theorem p_und (h1 : (j : Int) < x.length) (h : (Txt.item x (j : Int) == Str.ofString "_") = true) : priceB x.cps.toList j = true := by
  rw [s_und (item_at (by omega) h1), Int.toNat_natCast] at h; unfold priceB; rw [h]; simp
theorem p_end (h1 : (j : Int) < x.length) (h : (occurrences (Str.ofString "\r\x0b\x0c\x1c\x1d\x1e\u0085") (Txt.item x (j : Int)) 0 (Str.ofString "\r\x0b\x0c\x1c\x1d\x1e\u0085").length 1).isEmpty = false) : priceB x.cps.toList j = true := by
  rw [s_end (item_at (by omega) h1), Int.toNat_natCast, Bool.not_eq_false'] at h; unfold priceB; rw [h]; simp
theorem p_no (h1 : (j : Int) < x.length) (h : escL x.cps.toList (j : Int).toNat = false) (h2 : (Txt.item x (j : Int) == Str.ofString "_") = false) (h3 : (occurrences (Str.ofString "\r\x0b\x0c\x1c\x1d\x1e\u0085") (Txt.item x (j : Int)) 0 (Str.ofString "\r\x0b\x0c\x1c\x1d\x1e\u0085").length 1).isEmpty = true) : priceB x.cps.toList j = false := by
  rw [Int.toNat_natCast] at h
  rw [s_und (item_at (by omega) h1), Int.toNat_natCast] at h2
  rw [s_end (item_at (by omega) h1), Int.toNat_natCast, Bool.not_eq_true'] at h3
  unfold priceB; rw [h, h2, h3]; rfl
theorem l_no1 (h : (j : Int) ≠ (x.length : Int) - 1) : lastB x.cps.toList j = false := by
  have hl := cps_length x
  unfold lastB
  rw [decide_eq_false (by omega : ¬ j + 1 = x.cps.toList.length)]; simp
theorem l_no2 (h : looseB (x.cps.toList.getD (j : Int).toNat 0) = false) : lastB x.cps.toList j = false := by
  rw [Int.toNat_natCast] at h; unfold lastB; rw [h]; simp
theorem num_at (h1 : (j : Int) < x.length) : (Txt.item x (j : Int)).cps.getD 0 0 = x.cps.toList.getD j 0 := by
  have h := item_at (k := (j : Int)) (by omega) h1
  rw [one_sign h, Int.toNat_natCast]
  rfl
theorem l_no3 (h1 : (j : Int) < x.length) (h : ¬ (((Txt.item x (j : Int)).cps.getD 0 0 : Nat) : Int) < 256) : lastB x.cps.toList j = false := by
  rw [num_at h1] at h
  unfold lastB
  rw [decide_eq_false (by omega : ¬ x.cps.toList.getD j 0 < 256), Bool.and_false]
theorem l_yes (h1 : (j : Int) < x.length) (h : (j : Int) = (x.length : Int) - 1) (h2 : looseB (x.cps.toList.getD (j : Int).toNat 0) = true) (h3 : (((Txt.item x (j : Int)).cps.getD 0 0 : Nat) : Int) < 256) : lastB x.cps.toList j = true := by
  have hl := cps_length x
  rw [num_at h1] at h3
  rw [Int.toNat_natCast] at h2
  unfold lastB
  rw [decide_eq_true (by omega : x.cps.toList.getD j 0 < 256), decide_eq_true (by omega : j + 1 = x.cps.toList.length), h2]
  rfl
theorem s_no1 (h1 : (j : Int) < x.length) (h : (Txt.item x (j : Int) == Str.ofString "\n") = false) : softB x.cps.toList j = false := by
  rw [s_nl (item_at (by omega) h1), Int.toNat_natCast] at h; unfold softB; rw [h]; rfl
theorem s_no2 (h : ¬ (0 : Int) < (j : Int)) : softB x.cps.toList j = false := by
  unfold softB; rw [decide_eq_false (by omega : ¬ 0 < j)]; simp
theorem s_no3 (h : looseB (x.cps.toList.getD ((j : Int) - 1).toNat 0) = false) : softB x.cps.toList j = false := by
  have e : ((j : Int) - 1).toNat = j - 1 := by omega
  rw [e] at h; unfold softB; rw [h]; simp
theorem s_yes (h1 : (j : Int) < x.length) (h : (Txt.item x (j : Int) == Str.ofString "\n") = true) (h2 : (0 : Int) < (j : Int)) (h3 : looseB (x.cps.toList.getD ((j : Int) - 1).toNat 0) = true) : softB x.cps.toList j = true := by
  have e : ((j : Int) - 1).toNat = j - 1 := by omega
  rw [e] at h3
  rw [s_nl (item_at (by omega) h1), Int.toNat_natCast] at h
  unfold softB; rw [h, h3, decide_eq_true (by omega : 0 < j)]; rfl
theorem price_lt {l : List Nat} (h : priceB l j = true ∨ lastB l j = true) : l.getD j 0 < 256 := by
  unfold priceB lastB escL endB at h
  simp only [Bool.or_eq_true, Bool.and_eq_true, beq_iff_eq, decide_eq_true_eq] at h
  omega
theorem sp_oct {d : Str} (hP : d.cps.toList = spellTo x.cps.toList j) (h : priceB x.cps.toList j = true ∨ lastB x.cps.toList j = true) {n : Nat} (hn : n = j + 1) :
    (d ++ (⟨#[61, fig (x.cps.toList.getD (j : Int).toNat 0 / 16), fig (x.cps.toList.getD (j : Int).toNat 0 % 16)]⟩ : Str)).cps.toList = spellTo x.cps.toList n := by
  subst hn
  rw [cat_cps, hP, spellTo_succ, Int.toNat_natCast]
  unfold spellAt
  rw [if_pos (by simpa using h)]
  rfl
theorem sp_soft {d : Str} (hP : d.cps.toList = spellTo x.cps.toList j) (h : priceB x.cps.toList j = false) (h2 : lastB x.cps.toList j = false) (h3 : softB x.cps.toList j = true) {n : Nat} (hn : n = j + 1) :
    (d ++ Str.ofString "=0A").cps.toList = spellTo x.cps.toList n := by
  subst hn
  have e : (Str.ofString "=0A").cps.toList = [61, 48, 65] := by decide +kernel
  rw [cat_cps, hP, spellTo_succ, e]
  unfold spellAt
  rw [if_neg (by simp [h, h2]), if_pos h3]
theorem sp_keep {d : Str} (h1 : (j : Int) < x.length) (hP : d.cps.toList = spellTo x.cps.toList j) (h : priceB x.cps.toList j = false) (h2 : lastB x.cps.toList j = false) (h3 : softB x.cps.toList j = false) {n : Nat} (hn : n = j + 1) :
    (d ++ Txt.item x (j : Int)).cps.toList = spellTo x.cps.toList n := by
  subst hn
  rw [cat_cps, hP, spellTo_succ, item_at (by omega) h1, Int.toNat_natCast]
  unfold spellAt
  rw [if_neg (by simp [h, h2]), if_neg (by simp [h3])]
end
theorem costAt_le (l : List Nat) (k : Nat) : costAt l k ≤ 2 := by
  unfold costAt; split <;> omega
theorem costTo_le (l : List Nat) : ∀ n, costTo l n ≤ 2 * n
  | 0 => Nat.le_refl _
  | n + 1 => by
    have h1 := costTo_le l n
    have h2 := costAt_le l n
    rw [costTo_succ]
    omega
section
variable {l : List Nat} {b d : Int} {j n : Nat}
theorem co_two (hP : d = b + (costTo l j : Nat)) (h : priceB l j = true ∨ softB l j = true) (hn : n = j + 1) : d + 2 = b + (costTo l n : Nat) := by
  subst hn
  rw [costTo_succ]
  unfold costAt
  rw [if_pos (by simpa using h)]
  omega
theorem co_keep (hP : d = b + (costTo l j : Nat)) (h : priceB l j = false) (h2 : softB l j = false) (hn : n = j + 1) : d = b + (costTo l n : Nat) := by
  subst hn
  rw [costTo_succ]
  unfold costAt
  rw [if_neg (by simp [h, h2])]
  omega
end
section
variable {x : Str} {d : Int} {c : Nat}
theorem nn_len (x : Str) : (((x.length : Int) - 0).toNat) = x.cps.toList.length := by rw [cps_length]; omega
theorem co_end1 (hP : d = (x.length : Int) + (costTo x.cps.toList (((x.length : Int) - 0).toNat) : Nat)) (h1 : x.cps.toList.getLast? = some c) (h2 : looseB c = true) : d + 2 = (countL x.cps.toList : Nat) := by
  have hl := cps_length x
  rw [nn_len] at hP
  unfold countL looseEnd
  rw [h1]
  simp only [h2, if_true]
  omega
theorem co_end2 (hP : d = (x.length : Int) + (costTo x.cps.toList (((x.length : Int) - 0).toNat) : Nat)) (h1 : x.cps.toList.getLast? = some c) (h2 : looseB c = false) : d + 0 = (countL x.cps.toList : Nat) := by
  have hl := cps_length x
  rw [nn_len] at hP
  unfold countL looseEnd
  rw [h1]
  simp only [h2, Bool.false_eq_true, if_false]
  omega
theorem co_end3 (hP : d = (x.length : Int) + (costTo x.cps.toList (((x.length : Int) - 0).toNat) : Nat)) (h1 : (x != Str.ofString "") = false) : d + 0 = (countL x.cps.toList : Nat) := by
  have hl := cps_length x
  rw [nn_len] at hP
  rw [s_full, decide_eq_false_iff_not] at h1
  have e : x.cps.toList = [] := List.length_eq_zero_iff.mp (by omega)
  unfold countL looseEnd
  rw [e] at hP hl ⊢
  simp [costTo] at hP ⊢
  simp at hl
  omega
end
end Mine
end PartV3
section PartV4
open PySem PySem.W PyProof.Rows PySem.Spec PySem.Calls PySem.Builtin.Str
set_option maxRecDepth 100000
set_option maxHeartbeats 4000000
namespace Mine
def Good (l : List Nat) : Prop := ∀ k ∈ l, k ≠ 8232 ∧ k ≠ 8233
theorem Good.append {a b : List Nat} (h : Good a) (h2 : Good b) : Good (a ++ b) := fun k hk => (List.mem_append.mp hk).elim (h k) (h2 k)
theorem piece_all : ∀ p ∈ [Str.ofString "=", Str.ofString "3", Str.ofString "=3D", Str.ofString "D", Str.ofString "_", Str.ofString " ", Str.ofString "\t", Str.ofString "\n", Str.ofString "\r", Str.ofString "\x0b", Str.ofString "\u3000", Str.ofString "\u00a0", Str.ofString "=20", Str.ofString "\x1f", Str.ofString "\u2003", Str.ofString "4"], p.length ≤ 3 ∧ Good p.cps.toList := by unfold Good; decide +kernel
theorem piece_ok (i : Nat) : ([Str.ofString "=", Str.ofString "3", Str.ofString "=3D", Str.ofString "D", Str.ofString "_", Str.ofString " ", Str.ofString "\t", Str.ofString "\n", Str.ofString "\r", Str.ofString "\x0b", Str.ofString "\u3000", Str.ofString "\u00a0", Str.ofString "=20", Str.ofString "\x1f", Str.ofString "\u2003", Str.ofString "4"].getD i Str.empty).length ≤ 3 ∧ Good ([Str.ofString "=", Str.ofString "3", Str.ofString "=3D", Str.ofString "D", Str.ofString "_", Str.ofString " ", Str.ofString "\t", Str.ofString "\n", Str.ofString "\r", Str.ofString "\x0b", Str.ofString "\u3000", Str.ofString "\u00a0", Str.ofString "=20", Str.ofString "\x1f", Str.ofString "\u2003", Str.ofString "4"].getD i Str.empty).cps.toList := by
  rw [List.getD_eq_getElem?_getD]
  cases h : ([Str.ofString "=", Str.ofString "3", Str.ofString "=3D", Str.ofString "D", Str.ofString "_", Str.ofString " ", Str.ofString "\t", Str.ofString "\n", Str.ofString "\r", Str.ofString "\x0b", Str.ofString "\u3000", Str.ofString "\u00a0", Str.ofString "=20", Str.ofString "\x1f", Str.ofString "\u2003", Str.ofString "4"] : List Str)[i]? with
  | none => exact ⟨by decide, fun _ h => nomatch h⟩
  | some p => exact piece_all p (List.mem_of_getElem? h)
theorem tx_add {d y : Str} {j n : Nat} (h1 : d.length ≤ 3 * j) (h2 : Good d.cps.toList) (h3 : y.length ≤ 3) (h4 : Good y.cps.toList) (hn : n = j + 1) : (d ++ y).length ≤ 3 * n ∧ Good (d ++ y).cps.toList := by
  subst hn
  have e : (d ++ y).length = d.length + y.length := by rw [← cps_length, cat_cps, List.length_append, cps_length, cps_length]
  refine ⟨by omega, ?_⟩
  rw [cat_cps]
  exact h2.append h4
theorem tx_chr {d : Str} {j n : Nat} {i : Int} (h1 : d.length ≤ 3 * j) (h2 : Good d.cps.toList) (h3 : i.fmod 55296 ≠ 8232) (h4 : i.fmod 55296 ≠ 8233) (hn : n = j + 1) : (d ++ (⟨#[(i.fmod 55296).toNat]⟩ : Str)).length ≤ 3 * n ∧ Good (d ++ (⟨#[(i.fmod 55296).toNat]⟩ : Str)).cps.toList := by
  refine tx_add h1 h2 (by show 1 ≤ 3; omega) ?_ hn
  intro k hk
  have hk : k = (i.fmod 55296).toNat := by simpa using hk
  have h0 : 0 ≤ i.fmod 55296 := Int.fmod_nonneg_of_pos _ (by decide)
  omega
def spellS (x : Str) : Str := ⟨(spellL x.cps.toList).toArray⟩
theorem spellS_cps (x : Str) : (spellS x).cps.toList = spellL x.cps.toList := rfl
theorem spellS_len {x : Str} {n : Nat} (h : x.length ≤ n) : (spellS x).length ≤ 3 * n := by
  rw [← cps_length, spellS_cps]
  have := spellTo_len x.cps.toList x.cps.toList.length
  have hl := cps_length x
  unfold spellL
  omega
theorem decS_len {x : Str} {n : Nat} (h : x.length ≤ n) : (decS x).length ≤ n + 1 := by
  have h1 := goS_all (Txt.lines x)
  have h2 := StrLaws.lines_weight x
  have h3 : (decS x).length = (decL x).length := by rw [← cps_length]; rfl
  rw [h3]
  unfold decL
  split
  · simp
  · simp only
    split
    · rw [List.length_dropLast]; omega
    · omega
theorem kay_cps : Str.ofString "k" = ⟨#[107]⟩ := by decide +kernel
theorem replace_len1 (x : Str) : (Txt.replace x (Str.ofString "_") (Str.ofString "k")).length = x.length := by
  rw [← cps_length, ← cps_length, under_cps, kay_cps, replace_map, List.length_map]
end Mine
end PartV4
section PartF1
open PySem PySem.W PyProof.Rows PySem.Spec PySem.Calls PySem.Builtin.Str
set_option maxRecDepth 100000
set_option maxHeartbeats 4000000
namespace Mine
def brk (c : Nat) : Bool := Unicode.isLineBreak c
def spl : List Nat → List Nat → List (List Nat)
  | cur, [] => if cur = [] then [] else [cur]
  | cur, 13 :: 10 :: r => cur :: spl [] r
  | cur, c :: r => if brk c then cur :: spl [] r else spl (cur ++ [c]) r
theorem spl_brk {cur r : List Nat} {c : Nat} (h : brk c = true) (h2 : ¬ (c = 13 ∧ r.head? = some 10)) : spl cur (c :: r) = cur :: spl [] r := by
  rw [spl.eq_3]
  · rw [if_pos h]
  · intro r' e1 e2
    subst e2
    exact h2 ⟨e1, rfl⟩
theorem spl_no {cur r : List Nat} {c : Nat} (h : brk c = false) : spl cur (c :: r) = spl (cur ++ [c]) r := by
  rw [spl.eq_3]
  · rw [h]; simp
  · intro r' e1 e2
    subst e1
    exact absurd h (by decide)
open StrLaws in
theorem spans_run (x : Str) : ∀ (m i : Nat) (A : Array (Nat × Nat × Nat)) (st : Nat), i + m = x.length →
    (st ≤ i → (lsEnd x (Id.run (forIn (m := Id) (List.range' i m) ((A, st) : LsSt) (lsBody x)))).map (fun p => (x.cps.toList.drop p.1).take (p.2.1 - p.1)) = A.toList.map (fun p => (x.cps.toList.drop p.1).take (p.2.1 - p.1)) ++ spl ((x.cps.toList.drop st).take (i - st)) (x.cps.toList.drop i))
    ∧ (st = i + 1 → i < x.length → (lsEnd x (Id.run (forIn (m := Id) (List.range' i m) ((A, st) : LsSt) (lsBody x)))).map (fun p => (x.cps.toList.drop p.1).take (p.2.1 - p.1)) = A.toList.map (fun p => (x.cps.toList.drop p.1).take (p.2.1 - p.1)) ++ spl [] (x.cps.toList.drop (i + 1)))
  | 0, i, A, st, hm => by
    have hl := cps_length x
    refine ⟨fun hst => ?_, fun _ h => absurd h (by omega)⟩
    have hi : i = x.length := by omega
    have hsz : x.cps.size = x.length := rfl
    subst hi
    show (lsEnd x (A, st)).map _ = _
    unfold lsEnd
    rw [List.drop_eq_nil_of_le (i := x.length) (by omega)]
    by_cases hc : st < x.length
    · have hne : (x.cps.toList.drop st).take (x.length - st) ≠ [] := by
        intro e
        have := congrArg List.length e
        simp at this
        omega
      simp only [hc, if_true, Array.toList_push, List.map_append, List.map_cons, List.map_nil]
      unfold spl
      rw [if_neg hne]
    · have hne : (x.cps.toList.drop st).take (x.length - st) = [] := by
        apply List.length_eq_zero_iff.mp
        simp
        omega
      simp only [hc, if_false]
      unfold spl
      rw [if_pos hne, List.append_nil]
  | m + 1, i, A, st, hm => by
    have hl := cps_length x
    have hi : i < x.cps.toList.length := by omega
    have hd : x.cps.toList.drop i = x.cps.toList[i] :: x.cps.toList.drop (i + 1) := List.drop_eq_getElem_cons hi
    have hg : x.cps.getD i 0 = x.cps.toList[i] := by
      have : i < x.cps.size := by have : x.cps.size = x.length := rfl; omega
      rw [Array.getD_eq_getD_getElem?, Array.getElem?_eq_getElem this]
      simp
    have hh : (x.cps.toList.drop (i + 1)).head? = x.cps[i + 1]? := by
      rw [List.head?_drop]
      simp
    rw [List.range'_succ, List.forIn_cons]
    have ih := fun A' st' => spans_run x m (i + 1) A' st' (by omega)
    refine ⟨fun hst => ?_, fun hst _ => ?_⟩
    · unfold lsBody
      by_cases hb : Unicode.isLineBreak (x.cps.getD i 0) = true
      · have hc : (decide (st ≤ i) && Unicode.isLineBreak (x.cps.getD i 0)) = true := by rw [hb, decide_eq_true hst]; rfl
        simp only [hc, if_true]
        rw [hg] at hb
        by_cases hcr : x.cps.toList[i] = 13 ∧ (x.cps.toList.drop (i + 1)).head? = some 10
        · have hn : lsNext x i = i + 2 := by
            unfold lsNext
            rw [hg, ← hh, hcr.1, hcr.2]
            rfl
          have hlt : i + 1 < x.length := by
            have h9 := hcr.2
            rw [List.head?_drop] at h9
            have := (List.getElem?_eq_some_iff.mp h9).1
            omega
          rw [hn]
          refine ((ih (A.push (st, i, i + 2)) (i + 2)).2 rfl hlt).trans ?_
          rw [Array.toList_push, List.map_append, hd, hcr.1]
          have h9 := hcr.2
          rw [List.drop_eq_getElem_cons (i := i + 1) (by omega)] at h9 ⊢
          simp only [List.head?_cons, Option.some.injEq] at h9
          rw [h9, spl.eq_2]
          simp
        · have hn : lsNext x i = i + 1 := by
            unfold lsNext
            rw [hg, ← hh]
            rw [if_neg]
            intro h9
            simp only [Bool.and_eq_true, beq_iff_eq] at h9
            exact hcr h9
          rw [hn]
          refine ((ih (A.push (st, i, i + 1)) (i + 1)).1 (Nat.le_refl _)).trans ?_
          rw [Array.toList_push, List.map_append, hd, spl_brk hb hcr]
          simp
      · have hc : (decide (st ≤ i) && Unicode.isLineBreak (x.cps.getD i 0)) = false := by
          cases h : Unicode.isLineBreak (x.cps.getD i 0)
          · simp
          · exact absurd h hb
        simp only [hc, if_false, Bool.false_eq_true]
        refine ((ih A st).1 (by omega)).trans ?_
        rw [hg] at hb
        rw [hd, spl_no (by cases h : brk x.cps.toList[i]; rfl; exact absurd h hb)]
        congr 2
        have e : i + 1 - st = (i - st) + 1 := by omega
        rw [e, List.take_add_one, List.getElem?_drop]
        have e2 : st + (i - st) = i := by omega
        rw [e2, List.getElem?_eq_getElem hi]
        rfl
    · unfold lsBody
      have hc : (decide (st ≤ i) && Unicode.isLineBreak (x.cps.getD i 0)) = false := by rw [decide_eq_false (by omega)]; rfl
      simp only [hc, if_false, Bool.false_eq_true]
      refine ((ih A st).1 (by omega)).trans ?_
      subst hst
      simp
open StrLaws in
theorem lines_spl (x : Str) : (Txt.lines x).map (·.cps.toList) = spl [] x.cps.toList := by
  have hL : (linesOf x).map (·.cps.toList) = spl [] x.cps.toList := by
    have h := (spans_run x x.length 0 #[] 0 (by omega)).1 (Nat.le_refl _)
    rw [← ls_eq] at h
    simp only [List.drop_zero] at h
    refine Eq.trans ?_ h
    unfold linesOf lineCuts
    rw [List.map_map, List.map_map]
    refine List.map_congr_left fun p _ => ?_
    obtain ⟨i, j, k⟩ := p
    exact strSub_toList x i j
  unfold Txt.lines
  split
  · rename_i hc
    rw [← hL]
    unfold linesOf
    rw [beq_iff_eq.mp hc]
    simp only [List.map_cons, List.map_nil]
    rw [sub_whole]
  · exact hL
def rst (l : List Nat) : List Nat := (l.reverse.dropWhile Unicode.isSpace).reverse
theorem take_takeWhile_rev (p : Nat → Bool) (l : List Nat) : l.take (l.length - (l.reverse.takeWhile p).length) = (l.reverse.dropWhile p).reverse := by
  have h := List.takeWhile_append_dropWhile (p := p) (l := l.reverse)
  have h2 := congrArg List.reverse h
  rw [List.reverse_append, List.reverse_reverse] at h2
  have h3 := congrArg List.length h2
  rw [List.length_append, List.length_reverse, List.length_reverse] at h3
  conv => lhs; rw [← h2]
  rw [List.take_append_of_le_length (by rw [List.length_reverse]; rw [h2]; omega)]
  rw [List.take_of_length_le]
  rw [List.length_reverse, h2]
  omega
theorem rstrip_rst (x : Str) : (Txt.rstrip x).cps.toList = rst x.cps.toList := by
  unfold Txt.rstrip
  rw [PySem.W.stripBy_eq]
  show (strSub x 0 (x.length - ((x.cps.toList.drop 0).reverse.takeWhile Unicode.isSpace).length)).cps.toList = _
  rw [StrLaws.strSub_toList, List.drop_zero, Nat.sub_zero, ← cps_length, take_takeWhile_rev]
  rfl
def drl (cur r : List Nat) : List Nat := (spl cur r).flatMap fun l => lineGo (rst l)
theorem go_drl (x : Str) : (Txt.lines x).flatMap goS = drl [] x.cps.toList := by
  unfold drl
  rw [← lines_spl, List.flatMap_map]
  congr 1
  funext l
  show goS l = _
  unfold goS
  rw [rstrip_rst]
def decT (l : List Nat) : List Nat :=
  if (l.getLast? ≠ some 13 ∧ l.getLast? ≠ some 10) ∧ (drl [] l).getLast? = some 10 then (drl [] l).dropLast else drl [] l
theorem decL_eq (x : Str) : decL x = decT x.cps.toList := by
  unfold decL
  rw [go_drl]
  split
  · rename_i h
    have hl := cps_length x
    have e : x.cps.toList = [] := List.length_eq_zero_iff.mp (by omega)
    rw [e]
    rfl
  · rfl
end Mine
end PartF1
section PartF2
open PySem PySem.W PyProof.Rows PySem.Spec PySem.Calls PySem.Builtin.Str
set_option maxRecDepth 100000
set_option maxHeartbeats 4000000
namespace Mine
/-! ## char facts -/
theorem brk_iff (c : Nat) : brk c = true ↔ (10 ≤ c ∧ c ≤ 13) ∨ (28 ≤ c ∧ c ≤ 30) ∨ c = 133 ∨ c = 8232 ∨ c = 8233 := by
  unfold brk Unicode.isLineBreak
  simp only [UnicodeData.lineBreak, UnicodeData.lineBreak0, Unicode.within]
  constructor
  · intro h
    simp at h
    omega
  · intro h
    simp
    omega
theorem space_iff (c : Nat) : Unicode.isSpace c = true ↔ (9 ≤ c ∧ c ≤ 13) ∨ (28 ≤ c ∧ c ≤ 32) ∨ c = 133 ∨ c = 160 ∨ c = 5760 ∨ (8192 ≤ c ∧ c ≤ 8202) ∨ c = 8232 ∨ c = 8233 ∨ c = 8239 ∨ c = 8287 ∨ c = 12288 := by
  unfold Unicode.isSpace
  simp only [UnicodeData.space, UnicodeData.space0, Unicode.within]
  constructor
  · intro h
    simp at h
    omega
  · intro h
    simp
    omega
theorem white_iff (c : Nat) : whiteB c = true ↔ (9 ≤ c ∧ c ≤ 13) ∨ (28 ≤ c ∧ c ≤ 32) ∨ c = 133 ∨ c = 160 ∨ c = 5760 ∨ (8192 ≤ c ∧ c ≤ 8202) ∨ c = 8239 ∨ c = 8287 ∨ c = 12288 := by
  unfold whiteB
  simp only [Bool.or_eq_true, Bool.and_eq_true, decide_eq_true_eq, beq_iff_eq]
  omega
theorem end_iff (c : Nat) : endB c = true ↔ c = 13 ∨ c = 11 ∨ c = 12 ∨ c = 28 ∨ c = 29 ∨ c = 30 ∨ c = 133 := by
  unfold endB
  simp only [Bool.or_eq_true, beq_iff_eq]
  omega
theorem loose_iff (c : Nat) : looseB c = true ↔ c = 61 ∨ (c ≠ 10 ∧ ¬ endB c = true ∧ whiteB c = true) := by
  unfold looseB
  simp only [Bool.or_eq_true, Bool.and_eq_true, beq_iff_eq, bne_iff_ne, ne_eq, Bool.not_eq_true', and_assoc, Bool.not_eq_true]
theorem hex_iff (c : Nat) : isHex c = true ↔ (48 ≤ c ∧ c ≤ 57) ∨ (97 ≤ c ∧ c ≤ 102) ∨ (65 ≤ c ∧ c ≤ 70) := by
  unfold isHex
  simp only [Bool.or_eq_true, Bool.and_eq_true, decide_eq_true_eq]
  omega
theorem brk_end {c : Nat} (h : brk c = true) (h1 : c ≠ 10) (h2 : c ≠ 8232 ∧ c ≠ 8233) : endB c = true := by
  rw [brk_iff] at h; rw [end_iff]; omega
theorem end_brk {c : Nat} (h : endB c = true) : brk c = true := by
  rw [end_iff] at h; rw [brk_iff]; omega
theorem brk_hex {c : Nat} (h : brk c = true) : isHex c = false := by
  rw [brk_iff] at h; rw [← Bool.not_eq_true, hex_iff]; omega
theorem brk_eq {c : Nat} (h : brk c = true) : c ≠ 61 := by
  rw [brk_iff] at h; omega
/-- a sign that is no line end: loose is = or a blank -/
theorem loose_plain {c : Nat} (h : brk c = false) : looseB c = true ↔ c = 61 ∨ Unicode.isSpace c = true := by
  rw [← Bool.not_eq_true, brk_iff] at h
  rw [loose_iff, end_iff, white_iff, space_iff]
  omega

/-! ## hdec over a cut -/
def headHex (l : List Nat) : Bool := match l with | c :: _ => isHex c | [] => false
theorem hdec_append : ∀ (a b : List Nat), headHex b = false → hdec (a ++ b) = hdec a ++ hdec b := by
  intro a
  fun_induction hdec a with
  | case1 => intro b _; rfl
  | case2 x y r h ih =>
    intro b hb
    simp only [Bool.and_eq_true] at h
    show hdec (61 :: x :: y :: (r ++ b)) = _
    rw [hdec_oct h.1 h.2, ih b hb, List.cons_append]
  | case3 x y r h ih =>
    intro b hb
    show hdec (61 :: x :: y :: (r ++ b)) = _
    have h' : (isHex x && isHex y) = false := by simpa using h
    rw [hdec_no h']
    have := ih b hb
    rw [List.cons_append, List.cons_append] at this
    rw [this, List.cons_append]
  | case4 c r hx ih =>
    intro b hb
    rw [List.cons_append]
    by_cases hc : c = 61
    · subst hc
      match r, hx, ih with
      | [], _, _ =>
        match b, hb with
        | [], _ => rfl
        | [x], _ => rw [List.nil_append, hdec_short (by simp)]; rfl
        | x :: y :: b, hb =>
          have hb' : isHex x = false := hb
          rw [List.nil_append, hdec_no (by rw [hb']; rfl)]
          rfl
      | [x], _, ih =>
        have i9 := ih b hb
        match b, hb with
        | [], _ => rw [List.append_nil, hdec_short (by simp)]; simp [hdec]
        | y :: b, hb =>
          have hb' : isHex y = false := hb
          rw [List.cons_append, List.nil_append, hdec_no (by rw [hb']; simp)]
          rw [List.cons_append, List.nil_append] at i9
          rw [i9]; simp [hdec]
      | x :: y :: r, hx, _ => exact absurd rfl (hx x y r rfl)
    · rw [hdec_cons hc, ih b hb, List.cons_append]
theorem hdec_free : ∀ l : List Nat, 61 ∉ l → hdec l = l
  | [], _ => rfl
  | c :: r, h => by
    simp only [List.mem_cons, not_or] at h
    rw [hdec_cons (fun e => h.1 e.symm), hdec_free r h.2]
theorem hdec_brk {c : Nat} (h : brk c = true) (a r : List Nat) : hdec (a ++ c :: r) = hdec a ++ c :: hdec r := by
  rw [hdec_append a (c :: r) (brk_hex h), hdec_cons (brk_eq h)]

/-! ## a line -/
theorem go_hdec : ∀ l : List Nat, (l.getLast? ≠ some 61 → lineGo l = hdec l ++ [10]) ∧ (l.getLast? = some 61 → (lineGo l).length < (hdec l).length) := by
  intro l
  fun_induction lineGo l with
  | case1 => exact ⟨fun _ => rfl, fun h => nomatch h⟩
  | case2 => exact ⟨fun h => absurd rfl h, fun _ => by decide⟩
  | case3 x y r h ih =>
    simp only [Bool.and_eq_true] at h
    rw [hdec_oct h.1 h.2]
    have e : (61 :: x :: y :: r).getLast? = (y :: r).getLast? := by simp
    rw [e]
    cases r with
    | nil =>
      refine ⟨fun _ => rfl, fun h9 => ?_⟩
      have : y = 61 := by simpa using h9
      rw [this] at h
      exact absurd h.2 (by decide)
    | cons z r =>
      have e : (y :: z :: r).getLast? = (z :: r).getLast? := by simp
      rw [e]
      exact ⟨fun h9 => by rw [ih.1 h9, List.cons_append], fun h9 => by have := ih.2 h9; simp only [List.length_cons]; omega⟩
  | case4 x y r h ih =>
    have h' : (isHex x && isHex y) = false := by simpa using h
    rw [hdec_no h']
    have e : (61 :: x :: y :: r).getLast? = (x :: y :: r).getLast? := by simp
    rw [e]
    exact ⟨fun h9 => by rw [ih.1 h9, List.cons_append], fun h9 => by have := ih.2 h9; simp only [List.length_cons] at this ⊢; omega⟩
  | case5 c r h1 h2 ih =>
    have e : hdec (c :: r) = c :: hdec r := by
      by_cases hc : c = 61
      · subst hc
        match r, h1, h2 with
        | [], h1, _ => exact absurd rfl (h1 rfl)
        | [x], _, _ => exact hdec_short (by simp)
        | x :: y :: r, _, h2 => exact absurd rfl (h2 x y r rfl)
      · exact hdec_cons hc
    rw [e]
    cases r with
    | nil =>
      refine ⟨fun _ => rfl, fun h9 => ?_⟩
      have : c = 61 := by simpa using h9
      exact absurd rfl (h1 this)
    | cons z r =>
      have e : (c :: z :: r).getLast? = (z :: r).getLast? := by simp
      rw [e]
      exact ⟨fun h9 => by rw [ih.1 h9, List.cons_append], fun h9 => by have := ih.2 h9; simp only [List.length_cons]; omega⟩
theorem mem_tw (p : Nat → Bool) : ∀ (l : List Nat) (c : Nat), c ∈ l.takeWhile p → p c = true
  | [], _, h => nomatch h
  | a :: r, c, h => by
    rw [List.takeWhile_cons] at h
    split at h
    · rename_i ha
      rcases List.mem_cons.mp h with e | h
      · rw [e]; exact ha
      · exact mem_tw p r c h
    · exact nomatch h
theorem rst_cut (l : List Nat) : ∃ w, l = rst l ++ w ∧ (∀ c ∈ w, Unicode.isSpace c = true) ∧ (∀ c, (rst l).getLast? = some c → Unicode.isSpace c = false) := by
  have h := List.takeWhile_append_dropWhile (p := Unicode.isSpace) (l := l.reverse)
  have h2 := congrArg List.reverse h
  rw [List.reverse_append, List.reverse_reverse] at h2
  refine ⟨(l.reverse.takeWhile Unicode.isSpace).reverse, h2.symm, ?_, ?_⟩
  · intro c hc
    rw [List.mem_reverse] at hc
    exact mem_tw _ _ c hc
  · intro c hc
    unfold rst at hc
    rw [List.getLast?_reverse] at hc
    have := List.head?_dropWhile_not Unicode.isSpace l.reverse
    rw [hc] at this
    simpa using this
def lastL (l : List Nat) : Bool := match l.getLast? with | some c => looseB c | none => false
theorem line_clean {l : List Nat} (h : ∀ c ∈ l, brk c = false) (hc : lastL l = false) : lineGo (rst l) = hdec l ++ [10] := by
  obtain ⟨w, e, h1, h2⟩ := rst_cut l
  have hw : w = [] := by
    cases hg : w.getLast? with
    | none => exact List.getLast?_eq_none_iff.mp hg
    | some c =>
      have hcm := List.mem_of_getLast? hg
      have e2 : l.getLast? = some c := by rw [e, List.getLast?_append, hg]; rfl
      unfold lastL at hc
      rw [e2] at hc
      simp only at hc
      have := (loose_plain (h c (by rw [e]; exact List.mem_append_right _ hcm))).mpr (.inr (h1 c hcm))
      rw [this] at hc
      exact absurd hc (by decide)
  rw [hw, List.append_nil] at e
  rw [← e]
  refine (go_hdec l).1 fun h9 => ?_
  unfold lastL at hc
  rw [h9] at hc
  exact absurd hc (by decide)
theorem line_foul {l : List Nat} (h : ∀ c ∈ l, brk c = false) (hc : lastL l = true) : (lineGo (rst l)).length ≤ (hdec l).length ∧ ((lineGo (rst l)).getLast? ≠ some 10 → (lineGo (rst l)).length < (hdec l).length) := by
  obtain ⟨w, e, h1, h2⟩ := rst_cut l
  have hw61 : 61 ∉ w := fun hm => absurd (h1 61 hm) (by decide)
  have hhx : headHex w = false := by
    cases w with
    | nil => rfl
    | cons c r =>
      have := h1 c (.head _)
      rw [space_iff] at this
      show isHex c = false
      rw [← Bool.not_eq_true, hex_iff]
      omega
  have e3 : (hdec l).length = (hdec (rst l)).length + w.length := by
    have := congrArg hdec e
    rw [hdec_append _ _ hhx, hdec_free w hw61] at this
    rw [this, List.length_append]
  have g := go_hdec (rst l)
  by_cases h61 : (rst l).getLast? = some 61
  · have := g.2 h61
    exact ⟨by omega, fun _ => by omega⟩
  · have g1 := g.1 h61
    have hne : w ≠ [] := by
      intro hw
      rw [hw, List.append_nil] at e
      cases hg : l.getLast? with
      | none => unfold lastL at hc; rw [hg] at hc; exact absurd hc (by decide)
      | some c =>
        unfold lastL at hc
        rw [hg] at hc
        rcases (loose_plain (h c (List.mem_of_getLast? hg))).mp hc with h9 | h9
        · subst h9; rw [← e] at h61; exact h61 hg
        · have := h2 c (by rw [← e]; exact hg)
          rw [h9] at this
          exact absurd this (by decide)
    have hwl : 0 < w.length := List.length_pos_iff.mpr hne
    rw [g1, List.length_append]
    refine ⟨by simp only [List.length_cons, List.length_nil]; omega, fun h9 => absurd ?_ h9⟩
    simp
end Mine
end PartF2
section PartF3
open PySem PySem.W PyProof.Rows PySem.Spec PySem.Calls PySem.Builtin.Str
set_option maxRecDepth 100000
set_option maxHeartbeats 4000000
namespace Mine
/-! ## decode and header_decode answer alike just where the text is clean -/
def cln : Bool → List Nat → Bool
  | p, [] => !p
  | p, c :: r => !endB c && !(c == 10 && p) && cln (looseB c) r
theorem cln_line {r : List Nat} : ∀ (l : List Nat) (p : Bool), (∀ c ∈ l, brk c = false) → l ≠ [] → cln p (l ++ r) = cln (lastL l) r
  | [], _, _, h => absurd rfl h
  | [c], p, h, _ => by
    have hc := h c (.head _)
    have h1 : endB c = false := by
      cases he : endB c
      · rfl
      · rw [end_brk he] at hc; exact absurd hc (by decide)
    have h2 : (c == 10) = false := by
      cases he : c == 10
      · rfl
      · rw [beq_iff_eq.mp he] at hc; exact absurd hc (by decide)
    show (!endB c && !(c == 10 && p) && cln (looseB c) r) = _
    rw [h1, h2]
    rfl
  | c :: d :: l, p, h, _ => by
    have hc := h c (.head _)
    have h1 : endB c = false := by
      cases he : endB c
      · rfl
      · rw [end_brk he] at hc; exact absurd hc (by decide)
    have h2 : (c == 10) = false := by
      cases he : c == 10
      · rfl
      · rw [beq_iff_eq.mp he] at hc; exact absurd hc (by decide)
    show (!endB c && !(c == 10 && p) && cln (looseB c) ((d :: l) ++ r)) = _
    rw [h1, h2, cln_line (d :: l) _ (fun k hk => h k (.tail _ hk)) (by simp)]
    simp [lastL]
def ends (l : List Nat) : Nat := l.countP endB
theorem ends_app (a b : List Nat) : ends (a ++ b) = ends a + ends b := List.countP_append
theorem ends_cons (c : Nat) (r : List Nat) : ends (c :: r) = ends r + (if endB c then 1 else 0) := List.countP_cons
theorem go_ends (l : List Nat) : ends (lineGo l) ≤ ends (hdec l) := by
  fun_induction lineGo l with
  | case1 => decide
  | case2 => decide
  | case3 x y r h ih =>
    simp only [Bool.and_eq_true] at h
    rw [hdec_oct h.1 h.2, ends_cons, ends_cons]
    omega
  | case4 x y r h ih =>
    have h' : (isHex x && isHex y) = false := by simpa using h
    rw [hdec_no h', ends_cons, ends_cons]
    omega
  | case5 c r h1 h2 ih =>
    have e : hdec (c :: r) = c :: hdec r := by
      by_cases hc : c = 61
      · subst hc
        match r, h1, h2 with
        | [], h1, _ => exact absurd rfl (h1 rfl)
        | [x], _, _ => exact hdec_short (by simp)
        | x :: y :: r, _, h2 => exact absurd rfl (h2 x y r rfl)
      · exact hdec_cons hc
    rw [e, ends_cons, ends_cons]
    omega
theorem rst_ends (l : List Nat) : ends (hdec (rst l)) ≤ ends (hdec l) := by
  obtain ⟨w, e, h1, h2⟩ := rst_cut l
  have hhx : headHex w = false := by
    cases w with
    | nil => rfl
    | cons c r =>
      have := h1 c (.head _)
      rw [space_iff] at this
      show isHex c = false
      rw [← Bool.not_eq_true, hex_iff]
      omega
  have h3 := congrArg hdec e
  rw [hdec_append _ _ hhx] at h3
  rw [h3, ends_app]
  omega
theorem line_ends (l : List Nat) : ends (lineGo (rst l)) ≤ ends (hdec l) := Nat.le_trans (go_ends _) (rst_ends l)
theorem drl_crlf (cur r : List Nat) : drl cur (13 :: 10 :: r) = lineGo (rst cur) ++ drl [] r := by
  unfold drl
  rw [spl.eq_2, List.flatMap_cons]
theorem drl_brk {cur r : List Nat} {c : Nat} (h : brk c = true) (h2 : ¬ (c = 13 ∧ r.head? = some 10)) : drl cur (c :: r) = lineGo (rst cur) ++ drl [] r := by
  unfold drl
  rw [spl_brk h h2, List.flatMap_cons]
theorem drl_no {cur r : List Nat} {c : Nat} (h : brk c = false) : drl cur (c :: r) = drl (cur ++ [c]) r := by
  unfold drl
  rw [spl_no h]
theorem drl_nil (cur : List Nat) : drl cur [] = if cur = [] then [] else lineGo (rst cur) := by
  unfold drl
  rw [spl.eq_1]
  split <;> simp
/-- each literal line end is lost -/
theorem drl_ends : ∀ (n : Nat) (r cur : List Nat), r.length ≤ n → Good r → ends (drl cur r) + ends r ≤ ends (hdec (cur ++ r))
  | n, [], cur, _, _ => by
    rw [drl_nil, List.append_nil]
    split
    · exact Nat.zero_le _
    · have := line_ends cur
      show _ + 0 ≤ _
      omega
  | 0, c :: r, _, h, _ => by simp at h
  | n + 1, c :: r, cur, hn, hg => by
    have hn : r.length ≤ n := by simpa using hn
    have hg2 : Good r := fun k hk => hg k (.tail _ hk)
    by_cases hb : brk c = true
    · by_cases hcr : c = 13 ∧ r.head? = some 10
      · obtain ⟨rfl, hr⟩ := hcr
        cases r with
        | nil => exact nomatch hr
        | cons d r =>
          have hd : d = 10 := by simpa using hr
          subst hd
          have ih := drl_ends n r [] (by simp at hn; omega) (fun k hk => hg2 k (.tail _ hk))
          have h1 := line_ends cur
          rw [drl_crlf, hdec_brk (by decide), hdec_cons (by decide)]
          simp only [ends_app, ends_cons]
          rw [List.nil_append] at ih
          omega
      · have ih := drl_ends n r [] hn hg2
        have h1 := line_ends cur
        rw [drl_brk hb hcr, hdec_brk hb]
        simp only [ends_app, ends_cons]
        rw [List.nil_append] at ih
        omega
    · have hb : brk c = false := by simpa using hb
      have ih := drl_ends n r (cur ++ [c]) hn hg2
      have he : endB c = false := by
        cases he : endB c
        · rfl
        · rw [end_brk he] at hb; exact absurd hb (by decide)
      rw [drl_no hb, ends_cons, he]
      rw [List.append_assoc, List.singleton_append] at ih
      simpa using ih
def tl (l : List Nat) : List Nat := if l = [] ∨ l.getLast? = some 10 then [] else [10]
theorem tl_cut (a r : List Nat) : tl (a ++ 10 :: r) = tl r := by
  unfold tl
  cases r with
  | nil => simp
  | cons c r =>
    rw [List.getLast?_append]
    simp
theorem tl_line {l : List Nat} (h : ∀ c ∈ l, brk c = false) (hne : l ≠ []) : tl l = [10] := by
  unfold tl
  rw [if_neg]
  rintro (h1 | h1)
  · exact hne h1
  · have := h 10 (List.mem_of_getLast? h1)
    exact absurd this (by decide)
theorem getLast_app {a b : List Nat} (h : b ≠ []) : (a ++ b).getLast? = b.getLast? := by
  rw [List.getLast?_append]
  cases hb : b.getLast? with
  | none => exact absurd (List.getLast?_eq_none_iff.mp hb) h
  | some c => rfl
theorem hdec_pos {l : List Nat} (h : l ≠ []) : 0 < (hdec l).length := by
  cases l with
  | nil => exact absurd rfl h
  | cons c r =>
    by_cases hc : c = 61
    · subst hc
      match r with
      | [] => rw [hdec_short (by simp)]; simp
      | [x] => rw [hdec_short (by simp)]; simp
      | x :: y :: r =>
        cases h : isHex x && isHex y
        · rw [hdec_no h]; simp
        · simp only [Bool.and_eq_true] at h
          rw [hdec_oct h.1 h.2]; simp
    · rw [hdec_cons hc]; simp
/-- a text without END signs, from a line's inside on -/
theorem drl_two : ∀ (r cur : List Nat), Good r → ends r = 0 → (∀ c ∈ cur, brk c = false) →
    (cln (lastL cur) r = true → drl cur r = hdec (cur ++ r) ++ tl (cur ++ r)) ∧
    (cln (lastL cur) r = false → (drl cur r).length < (hdec (cur ++ r)).length + (tl (cur ++ r)).length ∧ (tl (cur ++ r) = [10] → (drl cur r).getLast? ≠ some 10 → (drl cur r).length < (hdec (cur ++ r)).length))
  | [], cur, _, _, hc => by
    rw [drl_nil, List.append_nil]
    by_cases hn : cur = []
    · subst hn
      refine ⟨fun _ => rfl, fun h => ?_⟩
      exact absurd h (by decide)
    · rw [if_neg hn, tl_line hc hn]
      refine ⟨fun h => line_clean hc (by simpa [cln] using h), fun h => ?_⟩
      have := line_foul hc (by simpa [cln] using h)
      exact ⟨by simp only [List.length_cons, List.length_nil]; omega, fun _ h9 => this.2 h9⟩
  | c :: r, cur, hg, he, hc => by
    have hg2 : Good r := fun k hk => hg k (.tail _ hk)
    rw [ends_cons] at he
    have he2 : ends r = 0 := by omega
    have hec : endB c = false := by
      cases h : endB c
      · rfl
      · rw [h] at he; simp at he
    by_cases hb : brk c = true
    · have h10 : c = 10 := by
        by_cases h9 : c = 10
        · exact h9
        · rw [brk_end hb h9 (hg c (.head _))] at hec; exact absurd hec (by decide)
      subst h10
      have ih := drl_two r [] hg2 he2 (fun _ h => nomatch h)
      rw [List.nil_append] at ih
      rw [drl_brk hb (fun h => absurd h.1 (by decide)), hdec_brk hb, tl_cut]
      have e : cln (lastL cur) (10 :: r) = (!lastL cur && cln false r) := by
        show (!endB 10 && !(10 == 10 && lastL cur) && cln (looseB 10) r) = _
        rw [show endB 10 = false from rfl, show looseB 10 = false from rfl]
        simp
      rw [e]
      have ih1 : cln false r = true → drl [] r = hdec r ++ tl r := ih.1
      have ih2 : cln false r = false → (drl [] r).length < (hdec r).length + (tl r).length ∧ (tl r = [10] → (drl [] r).getLast? ≠ some 10 → (drl [] r).length < (hdec r).length) := ih.2
      have hA : (lineGo (rst cur)).length ≤ (hdec cur).length + 1 ∧ (lastL cur = true → (lineGo (rst cur)).length ≤ (hdec cur).length) := by
        cases hl : lastL cur
        · rw [line_clean hc hl]
          simp
        · have := (line_foul hc hl).1
          exact ⟨by omega, fun _ => this⟩
      refine ⟨fun h => ?_, fun h => ?_⟩
      · simp only [Bool.and_eq_true, Bool.not_eq_true'] at h
        rw [line_clean hc h.1, ih1 h.2]
        simp
      · simp only [List.length_append, List.length_cons]
        cases hr : cln false r
        · have q := ih2 hr
          refine ⟨by omega, fun ht h9 => ?_⟩
          by_cases hd : drl [] r = []
          · have := q.2 ht (by rw [hd]; simp)
            omega
          · rw [getLast_app hd] at h9
            have := q.2 ht h9
            omega
        · have q := ih1 hr
          rw [hr] at h
          have hl : lastL cur = true := by simpa using h
          have hA2 := hA.2 hl
          have hq := congrArg List.length q
          rw [List.length_append] at hq
          refine ⟨by omega, fun ht h9 => ?_⟩
          exfalso
          rw [q, ht, ← List.append_assoc] at h9
          exact h9 (by simp)
    · have hb : brk c = false := by simpa using hb
      have ih := drl_two r (cur ++ [c]) hg2 he2 (fun k hk => (List.mem_append.mp hk).elim (hc k) (fun h => by rw [List.mem_singleton.mp h]; exact hb))
      have e : cln (lastL cur) (c :: r) = cln (lastL (cur ++ [c])) r := by
        have h2 : (c == 10) = false := by
          cases h : c == 10
          · rfl
          · rw [beq_iff_eq.mp h] at hb; exact absurd hb (by decide)
        show (!endB c && !(c == 10 && lastL cur) && cln (looseB c) r) = _
        rw [hec, h2]
        simp [lastL]
      rw [drl_no hb, e]
      rw [List.append_assoc, List.singleton_append] at ih
      exact ih
theorem cln_ends : ∀ (l : List Nat) (p : Bool), cln p l = true → ends l = 0
  | [], _, _ => rfl
  | c :: r, p, h => by
    have h : (!endB c && !(c == 10 && p) && cln (looseB c) r) = true := h
    simp only [Bool.and_eq_true, Bool.not_eq_true'] at h
    rw [ends_cons, cln_ends r _ h.2, h.1.1]
    rfl
theorem ends_mem {l : List Nat} (h : ends l = 0) {c : Nat} (hc : c ∈ l) : endB c = false := by
  have := List.countP_eq_zero.mp h c hc
  simpa using this
theorem decT_clean {l : List Nat} (hg : Good l) (h : cln false l = true) : decT l = hdec l := by
  have he := cln_ends l _ h
  have q := (drl_two l [] hg he (fun _ h => nomatch h)).1 h
  rw [List.nil_append] at q
  unfold decT
  rw [q]
  by_cases hn : l = []
  · subst hn; rfl
  · by_cases h10 : l.getLast? = some 10
    · have ht : tl l = [] := by unfold tl; rw [if_pos (.inr h10)]
      rw [ht, if_neg (fun h9 => h9.1.2 h10), List.append_nil]
    · have ht : tl l = [10] := by unfold tl; rw [if_neg (by rintro (h9 | h9); exact hn h9; exact h10 h9)]
      rw [ht, if_pos]
      · simp
      · refine ⟨⟨fun h13 => ?_, h10⟩, by simp⟩
        have := ends_mem he (List.mem_of_getLast? h13)
        exact absurd this (by decide)
theorem decT_foul {l : List Nat} (hg : Good l) (h : cln false l = false) : decT l ≠ hdec l := by
  intro e
  by_cases he : ends l = 0
  · have q := (drl_two l [] hg he (fun _ h => nomatch h)).2 h
    rw [List.nil_append] at q
    have e2 := congrArg List.length e
    unfold decT at e2
    have hn : l ≠ [] := by rintro rfl; exact absurd h (by decide)
    by_cases h10 : l.getLast? = some 10
    · rw [if_neg (fun h9 => h9.1.2 h10)] at e2
      have ht : tl l = [] := by unfold tl; rw [if_pos (.inr h10)]
      rw [ht] at q
      have := q.1
      simp only [List.length_nil] at this
      omega
    · have ht : tl l = [10] := by unfold tl; rw [if_neg (by rintro (h9 | h9); exact hn h9; exact h10 h9)]
      rw [ht] at q
      have q1 := q.1
      simp only [List.length_cons, List.length_nil] at q1
      by_cases hd : (drl [] l).getLast? = some 10
      · have h13 : l.getLast? ≠ some 13 := fun h13 => by
          have := ends_mem he (List.mem_of_getLast? h13)
          exact absurd this (by decide)
        rw [if_pos ⟨⟨h13, h10⟩, hd⟩, List.length_dropLast] at e2
        have : 0 < (drl [] l).length := by
          cases hx : drl [] l with
          | nil => rw [hx] at hd; exact nomatch hd
          | cons _ _ => simp
        omega
      · have := q.2 rfl hd
        rw [if_neg (fun h9 => hd h9.2)] at e2
        omega
  · have q := drl_ends l.length l [] (Nat.le_refl _) hg
    rw [List.nil_append] at q
    have : ends (decT l) ≤ ends (drl [] l) := by
      unfold decT
      split
      · exact List.Sublist.countP_le (List.dropLast_sublist _)
      · exact Nat.le_refl _
    rw [e] at this
    omega
theorem decT_iff {l : List Nat} (hg : Good l) : decT l = hdec l ↔ cln false l = true := by
  cases h : cln false l
  · exact ⟨fun e => absurd e (decT_foul hg h), fun e => absurd e (by decide)⟩
  · exact ⟨fun _ => rfl, fun _ => decT_clean hg h⟩
end Mine
end PartF3
section PartN1
open PySem PySem.W PyProof.Rows PySem.Spec PySem.Calls
set_option maxRecDepth 100000
set_option maxHeartbeats 4000000
namespace Mine
/-! ## a short text, its refusal's words; chr of a negative number -/
def AscTen (x : PySem.Str) : Prop := x.length ≤ 10 ∧ ∀ c ∈ x.cps.toList, c < 128
theorem repr_short {x : PySem.Str} (h : AscTen x) : (reprText x).length ≤ 102 := by
  have := StrLaws.reprText_len x (fun c hc => Nat.lt_trans (h.2 c hc) (by decide))
  have h1 := h.1
  omega
theorem ext_short (x : PySem.Str) (n : Nat) : (⟨x.cps.extract 0 n⟩ : PySem.Str).length ≤ n := by
  show (x.cps.extract 0 n).size ≤ n
  rw [Array.size_extract]
  omega
theorem words_short (x : PySem.Str) : ((Str.ofString (s!"invalid literal for int() with base {16}: " : String)) ++ (⟨x.cps.extract 0 200⟩ : PySem.Str)).length ≤ sizeLine := by
  have e : (Str.ofString (s!"invalid literal for int() with base {16}: " : String)).length ≤ 60 := by decide +kernel
  have e2 := ext_short x 200
  have e3 := Str.length_append (Str.ofString (s!"invalid literal for int() with base {16}: " : String)) (⟨x.cps.extract 0 200⟩ : PySem.Str)
  have e4 := PySem.sizeLine_eq
  omega
theorem wp_words {α : Type} {M : Model} {A : Around} {E : Value → Shared → Prop} {s : Shared} {msg : String} {Q : α → Shared → Prop} (hh : A.handled = none)
    (h : ∀ h' e vs tk, Heap.MadeExc s.heap h' e "ValueError" vs → E (.ref e) { s with heap := h', toks := tk }) : wpAny M A (raiseErrorWords "ValueError" msg : Sem α) Q E s := by
  unfold raiseErrorWords
  refine wpAny_bind (wpAny_mkText (wpAny_bind (wpAny_newExc_plain plainExc_ValueError (fun h' e X => ?_) (by show 1 ≤ sizeLine; simp only [PySem.sizeLine_eq]; omega))))
  exact wpAny_raiseNew_none hh (h h' e _ _ X)
theorem meets_chr_neg {i : Int} {t : Tok} (hi : i < 0) : Meets (Builtin.«chr» ⟨[.int i t], []⟩) (fun A R s => A.handled = none ∧ ∀ h' e vs tk, Heap.MadeExc s.heap h' e "ValueError" vs → R (.error (.ref e)) { s with heap := h', toks := tk }) := by
  intro prog w A R s ⟨hh, hE⟩
  show wpAny _ _ (if (decide (i < 0) || decide (i > 0x10FFFF)) = true then _ else _) _ _ s
  rw [if_pos (by rw [decide_eq_true hi]; rfl)]
  refine wpAny_bind (wpAny_rule ?_)
  refine wpAny_bind ?_
  exact wp_words hh hE
theorem chr_neg {prog : Program} {w : World} {A : Around} {E : Value → Shared → Prop} {s : Shared} {Q : Value → Shared → Prop} {i : Int} {t : Tok} (hi : i < 0) (hh : A.handled = none)
    (hE : ∀ h' e vs tk, Heap.MadeExc s.heap h' e "ValueError" vs → E (.ref e) { s with heap := h', toks := tk }) : wpAny (model prog w) A (call (.builtin "chr") [.int i t]) Q E s :=
  call_function_meets F.kind_chr F.plain_chr F.entry_chr (F.args_chr1 _) (meets_chr_neg hi) ⟨hh, hE⟩
end Mine
end PartN1
section PartY4
open PySem PySem.W PyProof.Rows PySem.Calls
set_option maxRecDepth 100000
set_option maxHeartbeats 4000000
namespace Mine
/-! ## rules of the spine, under the caller -/
section
variable {M : Model} {A : Around} {E : Value → Shared → Prop} {s : Shared} {env : Env}
theorem p_execs {st : Stmt} {rest : List Stmt} {Q : Flow → Shared → Prop}
    (h : wpP M A (exec st env) (fun f s₁ => match f with | .next => wpAny M A (execs rest env) Q E s₁ | f => Q f s₁) E s) : wpP M A (execs (st :: rest) env) Q E s := by
  rw [execs_cons]
  refine wpP_bind (wpP_mono h (fun f s₁ h₁ => wpP_of ?_) fun _ _ x => x)
  cases f <;> first | exact h₁ | exact wpAny_pure h₁
theorem p_execs_later {st : Stmt} {rest : List Stmt} {Q : Flow → Shared → Prop}
    (h : wpAny M A (exec st env) (fun f s₁ => match f with | .next => wpP M A (execs rest env) Q E s₁ | f => Q f s₁) E s) : wpP M A (execs (st :: rest) env) Q E s := by
  rw [execs_cons]
  refine wpP_bindA (wpAny_mono h (fun f s₁ h₁ => ?_) fun _ _ x => x)
  cases f <;> first | exact h₁ | exact wpP_pure h₁
theorem p_If {test : Expr} {body orelse : List Stmt} {pos : Pos} {Q : Flow → Shared → Prop}
    (h : wpP M A (isTrue test env (eval test env)) (fun b s₂ => wpAny M A (if b then execs body env else execs orelse env) Q E s₂) E s) : wpP M A (exec (.If test body orelse pos) env) Q E s := by
  rw [exec_If]
  refine wpP_bindA (wpAny_standAt (wpP_bind (wpP_mono h (fun b s₂ h₂ => wpP_of ?_) fun _ _ x => x)))
  cases b <;> exact h₂
theorem p_isTrue_Not {x : Expr} {pos : Pos} {whole : Sem Value} {Q : Bool → Shared → Prop} (h : wpP M A (isTrue x env (eval x env)) (fun b s₁ => Q (!b) s₁) E s) :
    wpP M A (isTrue (.UnaryOp .Not x pos) env whole) Q E s := by
  rw [arm_isTrue_UnaryOp]
  exact wpP_bind (wpP_mono h (fun b s₁ h₁ => wpP_pure h₁) fun _ _ x => x)
theorem p_isTrue_value {e : Expr} {whole : Sem Value} {Q : Bool → Shared → Prop} (h : wpP M A whole (fun v s₁ => wpAny M A (truthy v) Q E s₁) E s)
    (he : isTrue e env whole = (do let v ← whole; standAt e.pos; holding [v] (truthy v)) := by rfl) : wpP M A (isTrue e env whole) Q E s := by
  rw [he]
  exact wpP_bind (wpP_mono h (fun v s₁ h₁ => wpP_bindA (wpAny_standAt (wpP_of (wpAny_holding h₁)))) fun _ _ x => x)
theorem p_Return {e : Expr} {pos : Pos} {Q : Flow → Shared → Prop} (h : wpP M A (eval e env) (fun v => Q (.ret v)) E s) : wpP M A (exec (.Return (some e) pos) env) Q E s := by
  rw [exec_Return_some]
  exact wpP_bindA (wpAny_standAt (wpP_bind (wpP_mono h (fun v s₁ h₁ => wpP_pure h₁) fun _ _ x => x)))
theorem p_Assign_Name {x : Str} {pos' : Pos} {value : Expr} {pos : Pos} {Q : Flow → Shared → Prop}
    (h : wpP M A (eval value env) (fun v s₁ => wpAny M A (storeName env x v) (fun _ => Q .next) E s₁) E s)
    (hs : swapsWith value (some (.Name x pos')) pos.line env = pure false := by rfl) : wpP M A (exec (.Assign [.Name x pos'] value pos) env) Q E s := by
  rw [exec_Assign_Name env x pos' value pos hs]
  exact wpP_bindA (wpAny_standAt (wpP_bind (wpP_mono h (fun v s₁ h₁ => wpP_bindA (wpAny_standAt (wpP_bindA (wpAny_bindName (wpAny_mono h₁ (fun _ _ q => wpP_pure q) fun _ _ x => x))))) fun _ _ x => x)))
theorem p_Call_Name {id : Str} {p pos : Pos} {args : List Expr} {Q : Value → Shared → Prop}
    (h : wpAny M A (eval (.Name id p) env) (fun f s₁ => wpP M A (callWith pos f [] (backTo pos (starEach args env)) []) Q E s₁) E s) : wpP M A (eval (.Call (.Name id p) args [] pos) env) Q E s := by
  rw [arm_eval_Call_Name']
  exact wpP_bindA h
theorem p_evalArgs {f : Value} {x : Sem Value} {rest : List (Bool × Sem Value)} {Q : Args → Shared → Prop}
    (h : wpP M A (spliced ((false, x) :: rest)) (fun vs s' => Q ⟨vs, []⟩ s') E s) : wpP M A (evalArgs f true ((false, x) :: rest) []) Q E s := by
  unfold evalArgs
  show wpP M A (spliced ((false, x) :: rest) >>= _) Q E s
  refine wpP_bind (wpP_mono h (fun vs s' h' => wpP_of ?_) fun _ _ x => x)
  refine wpAny_holding ?_
  exact wpAny_bind (wpAny_pure (wpAny_bind (wpAny_pure (wpAny_pure h'))))
theorem wpP_keep {α : Type} {vs : List Value} {m : Sem α} {Q : α → Shared → Prop} (h : wpP M A m Q E s) : wpP M A (m.keep vs) Q E s :=
  fun Γ p hΓ hL => by rw [Sem.wp_keep]; exact h Γ p hΓ hL
theorem p_spliced_one {x : Sem Value} {Q : List Value → Shared → Prop} (h : wpP M A x (fun v s₁ => Q [v] s₁) E s) : wpP M A (spliced [(false, x)]) Q E s := by
  rw [spliced]
  refine wpP_bind (wpP_mono h (fun v s₁ h₁ => wpP_of ?_) fun _ _ x => x)
  simp only [Bool.false_eq_true, if_false]
  exact wpAny_bind (wpAny_pure (wpAny_bind (wpAny_holding (wpAny_mono (spliced_nil (Q := fun vs s₂ => vs = [] ∧ s₂ = s₁) ⟨rfl, rfl⟩) (fun vs s₂ h₂ => wpAny_pure (by obtain ⟨rfl, rfl⟩ := h₂; exact h₁)) fun _ _ x => x))))
theorem p_callWith_function {pos : Pos} {a : Addr} {o : Obj} {fd : FuncData} {x : Sem Value} {rest : List (Bool × Sem Value)} {Q : Value → Shared → Prop} (hr : rest.any (·.1) = false)
    (h : wpP M A (spliced ((false, x) :: rest)) (fun vs s₁ => (s₁.heap.get? a = some o ∧ o.data = .func fd) ∧ wpP M A (call (.ref a) vs) Q E s₁) E s) : wpP M A (callWith pos (.ref a) [] ((false, x) :: rest) []) Q E s := by
  unfold callWith
  refine wpP_bind (wpP_holding (p_evalArgs (wpP_mono h (fun vs s₁ h₁ => wpP_bindA (wpAny_standAt ?_)) fun _ _ x => x)))
  have tail : ∀ {t : Sem Value}, wpP M A t Q E s₁ → wpP M A (t >>= fun r => holding [r] point >>= fun _ => pure r) Q E s₁ :=
    fun ht => wpP_bind (wpP_mono ht (fun r s₂ hr => wpP_of (wpAny_bind (wpAny_holding (wpAny_point (wpAny_pure hr))))) fun _ _ x => x)
  refine wpP_bindA (m := keeperOf (.ref a)) ?_
  unfold keeperOf
  refine wpAny_bind (wpAny_load h₁.1.1 ?_)
  rw [h₁.1.2]
  refine wpAny_pure ?_
  simp only [List.any_cons, hr, List.any_nil, Bool.or_false]
  split
  · exact tail h₁.2
  · refine tail ?_
    unfold callMarked
    exact wpP_keep h₁.2
theorem p_callWith_builtin {pos : Pos} {id : String} {x : Sem Value} {rest : List (Bool × Sem Value)} {Q : Value → Shared → Prop} (hr : rest.any (·.1) = false)
    (h : wpP M A (spliced ((false, x) :: rest)) (fun vs s₁ => wpP M A (call (.builtin id) vs) Q E s₁) E s) : wpP M A (callWith pos (.builtin id) [] ((false, x) :: rest) []) Q E s := by
  unfold callWith
  refine wpP_bind (wpP_holding (p_evalArgs (wpP_mono h (fun vs s₁ h₁ => wpP_bindA (wpAny_standAt ?_)) fun _ _ x => x)))
  simp only [List.any_cons, hr, List.any_nil, Bool.or_false]
  refine wpP_bindA (wpAny_pure ?_)
  exact wpP_bind (wpP_mono h₁ (fun r s₂ hr => wpP_of (wpAny_bind (wpAny_holding (wpAny_point (wpAny_pure hr))))) fun _ _ x => x)
theorem p_callWith_type {pos : Pos} {T : String} {x : Sem Value} {rest : List (Bool × Sem Value)} {Q : Value → Shared → Prop} (hr : rest.any (·.1) = false)
    (h : wpP M A (spliced ((false, x) :: rest)) (fun vs s₁ => wpP M A (call (.type T) vs) Q E s₁) E s) : wpP M A (callWith pos (.type T) [] ((false, x) :: rest) []) Q E s := by
  unfold callWith
  refine wpP_bind (wpP_holding (p_evalArgs (wpP_mono h (fun vs s₁ h₁ => wpP_bindA (wpAny_standAt ?_)) fun _ _ x => x)))
  simp only [List.any_cons, hr, List.any_nil, Bool.or_false]
  refine wpP_bindA (wpAny_pure ?_)
  exact wpP_bind (wpP_mono h₁ (fun r s₂ hr => wpP_of (wpAny_bind (wpAny_holding (wpAny_point (wpAny_pure hr))))) fun _ _ x => x)
theorem p_Try {body orelse : List Stmt} {h₀ : ExceptHandler} {hs : List ExceptHandler} {pos : Pos} {Q : Flow → Shared → Prop}
    (h : wpP M A (execs body env) (fun f s₁ => match f with | .next => wpAny M A (execs orelse env) Q E s₁ | f => Q f s₁)
      (fun e s₁ => wpAny M A (noteFrame e env) (fun _ s₂ => wpAny M A (setFlight e none) (fun _ s₃ => wpAny M A (handleBy e env (h₀ :: hs)) Q E s₃) E s₂) E s₁) s) :
    wpP M A (exec (.Try body (h₀ :: hs) orelse [] pos) env) Q E s := by
  rw [arm_exec_Try]
  refine wpP_bindA (wpAny_standAt ?_)
  unfold tryStmt
  simp only [List.isEmpty_nil, if_true, List.isEmpty_cons, Bool.false_and, Bool.false_eq_true, if_false]
  refine wpP_bind (wpP_attempt (wpP_mono h (fun f s₁ h₁ => wpP_of ?_) fun e s₁ h₁ => wpP_of ?_))
  · cases f <;> first | exact h₁ | exact wpAny_pure h₁
  · exact wpAny_bind (wpAny_mono h₁ (fun _ _ h₂ => wpAny_bind h₂) fun _ _ x => x)
theorem led_no {own : List String} {l : List (Code × Pos)} (h : Led l) : pythonCodeMadeTheCall own (l.map (·.1)) = false := by
  obtain ⟨x, hx, e⟩ := h
  unfold pythonCodeMadeTheCall
  refine Bool.and_eq_false_iff.mpr (.inl (Bool.and_eq_false_iff.mpr (.inl ?_)))
  rw [Bool.not_eq_false']
  exact List.any_eq_true.mpr ⟨x.1, List.mem_map_of_mem hx, e⟩
theorem p_mark {own : List String} {e : Value} {Q : Unit → Shared → Prop} (h : Q () s) : wpP M A (markTheRefusal own e) Q E s := fun Γ p hΓ hL => by
  unfold markTheRefusal
  rw [Sem.wp_bind']
  unfold stack
  rw [Sem.wp_stack]
  show Sem.wp M Γ (if pythonCodeMadeTheCall own (((Γ.code, p) :: Γ.below).map (·.1)) = true then _ else _) _ _ p s
  rw [led_no hL, if_neg (by decide)]
  exact h
end
end Mine
end PartY4
section PartY5
open PySem PySem.W PyProof.Rows PySem.Spec PySem.Calls PySem.NumText
set_option maxRecDepth 100000
set_option maxHeartbeats 4000000
namespace Mine
section
variable {prog : Program} {w : World} {A : Around} {E : Value → Shared → Prop} {s : Shared}
theorem p_builtin {R : Result → Shared → Prop} {id : String} {args : Args} {b : Builtin} (hb : entryFor table id = some b)
    (h : wpP (model prog w) (A.under (.builtin id args)) (b args)
      (fun fin s' => match fin with | .done f => R (.ok f) s' | .again c' => c'.quiet = true ∧ codeP (model prog w) A c' R s') (fun e s' => R (.error e) s') s) : codeP (model prog w) A (.builtin id args) R s := by
  refine codeP_of_tree ?_
  show wpP _ _ (match entryFor table id with | some b => b args | none => unsupported ((withoutEnding? id "#data").getD id)) _ _ s
  rw [hb]; exact h
theorem p_call_builtin {R : Result → Shared → Prop} {id : String} {args : Args} {b : Builtin} (hq : plainId id = true) (hb : entryFor table id = some b) (hc : checkBuiltinCall id args = pure ())
    (h : wpP (model prog w) A.in1 (b args)
      (fun fin s' => match fin with | .done f => R (.ok f) s' | .again c' => c'.quiet = true ∧ codeP (model prog w) A c' R s') (fun e s' => R (.error e) s') s) : codeP (model prog w) A (.call (.builtin id) args) R s := by
  refine codeP_of_tree ?_
  show wpP _ A.in1 (do checkBuiltinCall id args; again (.builtin id args)) _ _ s
  rw [hc]
  refine wpP_bindA (wpAny_pure (wpP_pure (And.intro (plainId_quiet hq args) (p_builtin hb ?_))))
  rw [Around.under_plainId hq args]
  exact h
/-- a call of a type whose making raises -/
theorem p_callType_raises {T newId initId : String} {Bn : Builtin} {args : List Value} {Q : Value → Shared → Prop} (ft : TypeCalled T newId initId)
    (hct : checkTypeCall T ⟨args, []⟩ = pure ()) (hcn : checkBuiltinCall newId ⟨.type T :: args, []⟩ = pure ()) (entryN : entryFor table newId = some Bn)
    (h : wpP (model prog w) A.in1.in1 (Bn ⟨.type T :: args, []⟩) (fun _ _ => False) E s) : wpP (model prog w) A (call (.type T) args) Q E s := by
  obtain ⟨c, tl, hmro⟩ := ft.mro
  have hmade := ft.made
  refine wpP_call (codeP_of_tree ?_)
  show wpP _ _ (callAny (.type T) _) _ _ _
  refine wpP_pure ⟨Code.quiet_builtin _ (by decide +kernel), p_builtin F.entry_type_call ?_⟩
  rw [Around.under_plain (weight_type_call_type T args []) (units_type_call_type T args [])]
  have h1 := ft.notType
  have h2 := ft.canCreate
  unfold Builtin.«type.__call__»
  simp only [h1, h2, hct, hmro, hmade, pure_bind, Bool.false_eq_true, if_false, List.isEmpty_cons]
  refine wpP_bind (wpP_holding (wpP_call (p_call_builtin ft.plain entryN hcn (wpP_mono h (fun _ _ (x : False) => False.elim x) fun _ _ x => x))))
end
end Mine
end PartY5
section PartY6
open PySem PySem.W PyProof.Rows PySem.Spec PySem.Calls PySem.NumText
set_option maxRecDepth 100000
set_option maxHeartbeats 4000000
namespace Mine
section
variable {prog : Program} {w : World} {A : Around} {E : Value → Shared → Prop} {s : Shared}
theorem p_refuse {α : Type} {Q : α → Shared → Prop} {x : PySem.Str} {u : Tok} (hx : AscTen x) (hh : A.handled = none)
    (hE : ∀ h' e vs tk, Heap.MadeExc s.heap h' e "ValueError" vs → E (.ref e) { s with heap := h', toks := tk }) :
    wpP (model prog w) A (do
      let shown ← pyRepr (.str x u)
      let refusal ← newExc (.type "ValueError") [← mkStr (((s!"invalid literal for int() with base {16}: " : String) ++ ⟨shown.cps.extract 0 200⟩ : PySem.Str))]
      markTheRefusal ["int.__new__"] refusal
      raiseNew refusal : Sem α) Q E s := by
  have hr := repr_short hx
  refine wpP_bindA (wpAny_pyRepr_str ?_ (by simp only [PySem.sizeLine_eq]; omega))
  refine wpP_bindA (wpAny_mkStr ?_ (words_short _))
  refine wpP_bindA (wpAny_newExc_plain plainExc_ValueError (fun h' e X => ?_) (by show 1 ≤ sizeLine; simp only [PySem.sizeLine_eq]; omega))
  refine wpP_bind (p_mark ?_)
  exact wpP_of (wpAny_raiseNew_none hh (hE _ e _ _ X))
theorem p_ite_true {α : Type} {c : Prop} [Decidable c] {a b : Sem α} {Q : α → Shared → Prop} (hc : c) (h : wpP (model prog w) A a Q E s) : wpP (model prog w) A (if c then a else b) Q E s := by rw [if_pos hc]; exact h
theorem p_ite_false {α : Type} {c : Prop} [Decidable c] {a b : Sem α} {Q : α → Shared → Prop} (hc : ¬ c) (h : wpP (model prog w) A b Q E s) : wpP (model prog w) A (if c then a else b) Q E s := by rw [if_neg hc]; exact h
theorem p_text16_no {Q : Value → Shared → Prop} {x : PySem.Str} {u : Tok} {text : List Nat}
    (hs : (text.takeWhile (· != 0)).length ≤ 640) (hr : (int_private% "readNumeral") 0 16 (text.takeWhile (· != 0)) = int_private% "Numeral.invalid" ∨ (∃ n, (int_private% "readNumeral") 0 16 (text.takeWhile (· != 0)) = (int_private% "Numeral.value") n) ∧ ((text.takeWhile (· != 0)).length == text.length) = false)
    (hx : AscTen x) (hh : A.handled = none)
    (hE : ∀ h' e vs tk, Heap.MadeExc s.heap h' e "ValueError" vs → E (.ref e) { s with heap := h', toks := tk }) :
    wpP (model prog w) A ((int_private% "intFromText") (.str x u) text 16) Q E s := by
  rcases hr with hr | ⟨⟨n, hr⟩, hne⟩
  · refine p_ite_true hs ?_
    dsimp only
    rw [pure_bind, hr]
    dsimp only
    refine wpP_bindA ?_
    repeat wp_step
    refine p_ite_false (by simp) ?_
    refine wpP_bindA ?_
    repeat wp_step
    refine wpP_bindA ?_
    repeat wp_step
    exact p_refuse hx hh hE
  · refine p_ite_true hs ?_
    dsimp only
    rw [pure_bind, hr]
    dsimp only
    refine p_ite_false (by rw [hne]; decide) ?_
    refine wpP_bindA ?_
    repeat wp_step
    refine wpP_bindA ?_
    repeat wp_step
    exact p_refuse hx hh hE
theorem p_int16_none {Q : Value → Shared → Prop} {x : PySem.Str} {t k : Tok} (hn : int16? x = none) (hx : AscTen x) (hh : A.handled = none)
    (hE : ∀ h' e vs tk, Heap.MadeExc s.heap h' e "ValueError" vs → E (.ref e) { s with heap := h', toks := tk }) :
    wpP (model prog w) A (call (.type "int") [.str x t, .int 16 k]) Q E s := by
  refine p_callType_raises F.called_int (typeCall_int_2 _ _) (newCall_int_2 _ _) F.entry_int_new ?_
  have hr : (int_private% "readNumeral") 0 16 (numSeenOf x) = int_private% "Numeral.invalid" ∨ (∃ n, (int_private% "readNumeral") 0 16 (numSeenOf x) = (int_private% "Numeral.value") n) ∧ ((numSeenOf x).length == (numTextOf x).length) = false := by
    rw [read16]
    unfold int16? at hn
    split at hn
    · left; rw [hn]
    · rename_i hne
      cases num16 (numSeenOf x) with
      | none => left; rfl
      | some n => right; exact ⟨⟨n, rfl⟩, by simpa using hne⟩
  have hs : (numSeenOf x).length ≤ 640 := Nat.le_trans (seen_length x) (Nat.le_trans hx.1 (by decide))
  have key : ∀ {Q : Value → Shared → Prop}, wpP (model prog w) A.in1.in1 ((int_private% "intFromText") (.str x t) (numTextOf x) 16) Q E s := p_text16_no hs hr hx hh hE
  clear hr hs hn hx
  have f1 := F.conv_sub_int
  have f2 := F.madeHere_int
  have f6 : typeOf (.str x t) = pure (.type "str") := rfl
  have e1 : [Value.str x t, Value.int 16 k].head? = some (.str x t) := rfl
  have e2 : ([Value.str x t, Value.int 16 k][1]? <|> Option.map (fun (x : PySem.Str × Value) => x.snd) ([] : List (PySem.Str × Value)).head?) = some (.int 16 k) := rfl
  unfold Builtin.«int.__new__»
  dsimp only
  repeat (first
    | exact wpP_bind (wpP_mono (key (Q := fun _ _ => False)) (fun _ _ (x : False) => False.elim x) fun _ _ x => x)
    | (refine p_ite_false (by first | decide | (simp; done)) ?_)
    | ((with_reducible refine wpP_bindA ?_); (repeat wp_step))
    | rw [e1, e2]
    | dsimp only)
end
end Mine
end PartY6
section PartY7
open PySem PySem.W PyProof.Rows PySem.Calls
set_option maxRecDepth 100000
set_option maxHeartbeats 4000000
namespace Mine
/-! ## a for loop under the caller -/
section
variable {M : Model} {A : Around} {E : Value → Shared → Prop} {s : Shared} {env : Env}
theorem p_noted {α : Type} {m : Sem α} {Q : α → Shared → Prop} (h : wpP M A m Q (notedBy M A env E) s) : wpP M A (m.onRaise fun x => do noteFrame x env; theTreesLotGoes x) Q E s :=
  wpP_onRaise (wpP_mono h (fun _ _ q => q) fun _ _ hx => wpAny_bind (wpAny_mono hx (fun _ _ e => wpAny_theTreesLotGoes e) fun _ _ e => e))
theorem codeP_loop {c : Code} {R : Result → Shared → Prop} (hq : c.quiet = true) (I : Nat → Shared → Prop)
    (turn : ∀ n s, I n s → wpP M (A.under c) (M.den c)
      (fun fin s' => match fin with
        | .done f => R (.ok f) s'
        | .again c' => (c' = c ∧ ∃ m, m < n ∧ I m s') ∨ (c'.quiet = true ∧ codeP M A c' R s')) (fun e s' => R (.error e) s') s) :
    ∀ (n : Nat) (s : Shared), I n s → codeP M A c R s := by
  intro n
  induction n using Nat.strongRecOn with
  | ind n ih =>
    intro s h
    refine codeP_of_tree (wpP_mono (turn n s h) (fun fin s' hf => ?_) fun _ _ h' => h')
    cases fin with
    | done f => exact hf
    | again c' =>
      rcases hf with ⟨rfl, m, hm, hI⟩ | hf
      · exact ⟨hq, ih m hm _ hI⟩
      · exact hf
end
section
variable {prog : Program} {w : World} {A : Around} {E : Value → Shared → Prop} {s : Shared} {env : Env}
theorem p_forLoop {R : Result → Shared → Prop} {x : Str} {px : Pos} {it : Value} {body : List Stmt} (I : Nat → Shared → Prop)
    (turn : ∀ n s, I n s → wpAny (model prog w) A (pyNext it) (fun r s₁ => match r with
      | none => R (.ok .next) s₁
      | some v => wpAny (model prog w) A (assign (.Name x px) env v) (fun _ s₂ => wpP (model prog w) A (execs body env) (fun f s₃ => match f with
          | .next | .cont => ∃ m, m < n ∧ I m s₃
          | .brk => R (.ok .next) s₃
          | .ret v => R (.ok (.ret v)) s₃) (notedBy (model prog w) A env fun e s' => R (.error e) s') s₂) (notedBy (model prog w) A env fun e s' => R (.error e) s') s₁) (notedBy (model prog w) A env fun e s' => R (.error e) s') s)
    (n : Nat) (h : I n s) : codeP (model prog w) A (.forLoop (.Name x px) it body [] env) R s := by
  refine codeP_loop rfl I (fun n s hI => ?_) n s h
  show wpP _ _ ((forTurn (.Name x px) it body [] env).onRaise (fun x => do noteFrame x env; theTreesLotGoes x)) _ _ s
  refine p_noted ?_
  simp only [forTurn]
  refine wpP_bindA (wpAny_standAt (wpP_bindA (wpAny_onRaise (wpAny_mono (turn n s hI) (fun r s₁ h₁ => ?_) fun _ _ h' => wpAny_standAt h'))))
  cases r with
  | none => exact wpP_pure (.inr ⟨rfl, codeP_of (codeAny_block (wpAny_execs_nil h₁))⟩)
  | some v =>
    refine wpP_bindA (wpAny_of_eq (show letOwnedTupleGo (.Name x px) it v = pure () from rfl) ?_)
    refine wpP_bindA (wpAny_mono h₁ (fun _ s₂ h₂ => wpP_bind (wpP_mono h₂ (fun f s₃ h₃ => ?_) fun _ _ h' => h')) fun _ _ h' => h')
    cases f with
    | next => exact wpP_pure (.inl ⟨rfl, h₃⟩)
    | cont => exact wpP_pure (.inl ⟨rfl, h₃⟩)
    | brk => exact wpP_pure h₃
    | ret v => exact wpP_pure h₃
theorem p_For {x : Str} {px : Pos} {iter : Expr} {body : List Stmt} {pos : Pos} {Q : Flow → Shared → Prop}
    (h : wpAny (model prog w) A (eval iter env) (fun xv s₁ => wpAny (model prog w) A (pyIter xv) (fun it s₂ =>
      codeP (model prog w) (A.mark none) (.forLoop (.Name x px) it body [] env) (fun r s' => match r with | .ok f => Q f s' | .error e => cameBackBy (model prog w) A env E e s') s₂) E s₁) E s)
    (hs : ∀ x, foldedSetIterable iter env x = pure x := by intro _; rfl) : wpP (model prog w) A (exec (.For (.Name x px) iter body [] pos) env) Q E s := by
  rw [exec_For]
  refine wpP_bindA (wpAny_standAt (wpP_bindA (wpAny_mono h (fun xv s₁ h₁ => ?_) fun _ _ e => e)))
  refine wpP_bindA (wpAny_of_eq (hs xv) (wpP_bindA (wpAny_standAt (wpP_bindA (wpAny_holding (wpAny_mono h₁ (fun it s₂ h₂ => ?_) fun _ _ e => e))))))
  unfold runOwn
  exact wpP_onRaise (wpP_run h₂)
end
end Mine
end PartY7
section PartY8
open PySem PySem.W PyProof.Rows PySem.Calls
set_option maxRecDepth 100000
set_option maxHeartbeats 4000000
namespace Mine
section
variable {prog : Program} {w : World} {A : Around} {E : Value → Shared → Prop} {s : Shared} {env : Env} {h₀ : Heap}
/-- a loop over a list under the caller: the invariant speaks of the names alone -/
theorem p_list {l : Addr} {vs : List Value} {x : Str} {px : Pos} {body : List Stmt} {m₀ : Str → Option Value} {Q : Flow → Shared → Prop} (J : Nat → (Str → Option Value) → Prop)
    (hh : A.handled = none) (hls : s.heap.IsList l vs.toArray) (hlL : l ≠ env.locals) (hx : env.kindOf x = some .local) (hp : (env.scope.kind == .class || (env.scope.kind == .module && env.locals != env.globals)) = false)
    (F : Fr h₀ env.locals s.heap m₀) (h0 : J 0 m₀)
    (turn : ∀ (E' : Value → Shared → Prop) i v m h tk own, vs[i]? = some v → J i m → Fr h₀ env.locals h (fun y => if y = x then some v else m y) → News h₀ env.locals h own →
      wpP (model prog w) A (execs body env) (fun f s₃ => match f with
        | .next => ∃ h' tk' m', s₃ = { s with heap := h', toks := tk' } ∧ Fr h₀ env.locals h' m' ∧ News h₀ env.locals h' own ∧ J (i + 1) m'
        | .ret v => Q (.ret v) s₃
        | _ => False) E' { s with heap := h, toks := tk })
    (done : ∀ m h tk, J vs.length m → Fr h₀ env.locals h m → Q .next { s with heap := h, toks := tk }) :
    wpAny (model prog w) A (pyIter (.ref l)) (fun it s₂ => codeP (model prog w) (A.mark none) (.forLoop (.Name x px) it body [] env) (fun r s' => match r with | .ok f => Q f s' | .error e => cameBackBy (model prog w) A env E e s') s₂) E s := by
  obtain ⟨ol, hol, _⟩ := id hls
  have hne : l ≠ s.heap.objs.size := Nat.ne_of_lt (Heap.lt_size hol)
  refine wpAny_pyIter_list hls ?_
  have W := Walks.list (prog := prog) (w := w) (A := A) hh s.heap.objs.size l hne vs.toArray
  have hlen : vs.toArray.size = vs.length := List.size_toArray
  rw [hlen] at W
  have hI : h₀.get? s.heap.objs.size = none := next_is_new F
  have hLI : env.locals ≠ s.heap.objs.size := Nat.ne_of_lt F.ns.lt
  have hLf : env.locals ∉ [s.heap.objs.size, l] := fun hm => by
    rcases List.mem_cons.mp hm with e | hm
    · exact hLI e
    · exact hlL (List.mem_singleton.mp hm).symm
  have moved : ∀ {h h₁ : Heap} {m : Str → Option Value}, Fr h₀ env.locals h m → (∀ b o, b ∉ [s.heap.objs.size] → h.get? b = some o → h₁.get? b = some o) → Fr h₀ env.locals h₁ m := fun F' hk =>
    ⟨F'.ns.at' fun o e => hk _ o (fun q => hLI (List.mem_singleton.mp q)) e, fun b o e => hk b o (fun q => by rw [List.mem_singleton.mp q, hI] at e; cases e) (F'.keep b o e), F'.above⟩
  refine p_forLoop (fun k s' => ∃ h' tk m' i, s' = { s with heap := h', toks := tk } ∧ (h'.IsListIter s.heap.objs.size l i ∧ h'.IsList l vs.toArray) ∧ Fr h₀ env.locals h' m' ∧ J i m' ∧ i ≤ vs.length ∧ k = vs.length + 1 - i) ?_ (vs.length + 1)
    ⟨_, _, m₀, 0, rfl, ⟨⟨_, Heap.get?_push_size _ rfl, rfl, rfl⟩, hls.at fun o e => Heap.get?_push_of_some _ e⟩, F.push _, h0, Nat.zero_le _, rfl⟩
  rintro k s' ⟨h', tk, m', i, rfl, hst, F', hJ, hi, rfl⟩
  by_cases hlt : i < vs.length
  · refine W.item i _ _ _ hlt hst fun v h₁ tk₁ hP hst₁ hk₁ => ?_
    have F₁ := moved F' hk₁
    refine wpAny_assign_Name (wpAny_storeName_local hx F₁.ns (fun h₂ hn₂ hs₂ => ?_) hp)
    have F₂ := F₁.set hn₂ hs₂
    refine wpP_mono (turn _ i v m' _ _ (ownOf h₀ [s.heap.objs.size, l] h₂) (by simpa using hP) hJ F₂ (news_ownOf hLf)) (fun f s₃ h₃ => ?_) fun _ _ e => e
    cases f with
    | next =>
      obtain ⟨h₃', tk₃, m₂, rfl, F₃, N₃, hJ₃⟩ := h₃
      refine ⟨vs.length + 1 - (i + 1), by omega, h₃', tk₃, m₂, i + 1, rfl, W.frame _ _ _ hst₁ (fun b hb o e => ?_), F₃, hJ₃, hlt, rfl⟩
      have e₂ : h₂.get? b = some o := (hs₂.2 b fun q => hLf (q ▸ hb)).trans e
      cases hn : h₀.get? b with
      | some o₀ =>
        have q := F₂.keep b o₀ hn
        rw [e₂] at q
        rw [Option.some.inj q]
        exact F₃.keep b o₀ hn
      | none => exact (N₃ _ (mem_ownOf hb hn e₂)).1
    | ret v => exact h₃
    | brk => exact h₃.elim
    | cont => exact h₃.elim
  · obtain rfl : i = vs.length := by omega
    exact W.done _ _ _ hst fun h₁ tk₁ hk₁ => done m' _ _ hJ (moved F' hk₁)
end
end Mine
end PartY8
section PartY9
open PySem PySem.W PyProof.Rows PySem.Calls
set_option maxRecDepth 100000
set_option maxHeartbeats 4000000
namespace Mine
section
variable {prog : Program} {w : World} {s : Shared} {h₀ : Heap} {L a : Addr} {m : Str → Option Value} {cn : Str} {cs : Scope} {ccd : Value} {news : List (Addr × Obj)} {K : Frag} {p : Program} {loose : List Str} {mean : ExcName → Option Value} {mg mb : Str → Option Value}
    {R : Result → Shared → Prop} {name qual : Str} {params : Arguments} {body : List Stmt} {scope : Scope} {dV kV doc pm cdv ct oc : Value} {an od : Option Addr} {osl : Array (Option Value)} {f : Addr} {args : Args} {binds : List (Str × Value)}
/-- a def that a def of the caller's calls, under the caller: the statics stay -/
theorem codeP_defS (F : Fr h₀ L s.heap m) (X₀ : K.In h₀) (N : News h₀ L s.heap news) (T : Top p loose mean mg mb h₀)
    (ho : K.lookup f = some ⟨oc, od, .func (fnOf name qual params body scope dV kV doc pm an cdv ct), osl⟩) (hcd : codeIn K cdv qual = true) (hroom : (callerA.deeper (envOf cn cs L a ccd)).depth < recursionLimit)
    (hbind : BindsTo s (fnOf name qual params body scope dV kV doc pm an cdv ct) args binds) (hloc : ∀ y ∈ binds, scope.names.lookup y.1 = some .local)
    (h : ∀ g L' h₁, Fr h₀ L g m → Fr g L' h₁ (fun y => binds.reverse.lookup y) → News g L' h₁ news → Below (callerA.deeper (envOf cn cs L a ccd)) h₀ [envOf cn cs L a ccd] g → K.In g → Top p loose mean mg mb g → KtsDicts [L] g → h₀.get? L = none →
      wpP (model prog w) ((callerA.deeper (envOf cn cs L a ccd)).deeper (envOf qual scope L' f cdv)) (execs body (envOf qual scope L' f cdv))
        (fun fl s' => LeaveS0 [L] h₀ L m g R (match fl with | .ret v => v | _ => .none) s')
        (fun e s' => wpAny (model prog w) ((callerA.deeper (envOf cn cs L a ccd)).deeper (envOf qual scope L' f cdv)) (leaving (envOf qual scope L' f cdv) e) (fun _ s'' => R (.error e) s'') (fun e' s'' => R (.error e') s'') s')
        { s with heap := h₁, toks := s.toks + binds.length })
    (hck : cs.kind = .function) (hco : scope.isCoroutine = false) (hgen : scope.isGenerator = false) (hk : scope.kind = .function)
    (hcell : ∀ x ∈ scope.names, x.2 ≠ .cell) : codeP (model prog w) (callerA.deeper (envOf cn cs L a ccd)) (.call (.ref f) args) R s := by
  have X := X₀.keeps F.keep
  refine codeP_call_def (fd := fnOf name qual params body scope dV kV doc pm an cdv ct) (body := body) (binds := binds) hroom (X _ _ ho) rfl (T.nolimit.keeps F.keep) (codeRec_of X hcd) rfl hbind hcell hloc (fun h₁ hns hk₁ => ?_) hco hgen hk
  have hA : (callerA.deeper (envOf cn cs L a ccd)).frames = some [envOf cn cs L a ccd] := rfl
  have B := below_caller h₀
  obtain ⟨oL, es, ep, hLg, hLd, hN, hNs, st, B₂⟩ := kts_enter B F N hA hck
  have nL₀ : h₀.get? L = none := kts_self F
  refine wpP_mono (h _ s.heap.objs.size h₁ ⟨hN _ hLg, st, F.above⟩ ⟨hns, fun b o e => hk₁ b o (of_hideAll _ e), Nat.le_of_eq (hideAll_size _ _)⟩
    (fun p hp => ⟨hk₁ _ _ (N p hp).1, Nat.ne_of_lt (Heap.lt_size (N p hp).1), hideAll_none _ (List.mem_map_of_mem hp)⟩) B₂ (X₀.keeps st) (T.keeps st) (fun b hb => by
      rw [List.mem_singleton.mp hb]
      exact ⟨oL, es, ep, hLg, hLd⟩) nL₀) (fun fl s' hl => ?_) fun _ _ y => y
  obtain ⟨g', L', m', news', T', F', N', k⟩ := hl
  obtain ⟨sl, hs⟩ := T'.up hLg
  refine k ⟨hNs sl _ (F'.keep _ _ hs), fun b o e => F'.keep b o (T'.other b o (st b o e) (fun q => by
    rw [List.mem_singleton.mp q, nL₀] at e
    cases e)), F.above⟩ fun p hp => ⟨(N' p hp).1, fun q => ?_, ?_⟩
  · have := (N' p hp).2.2; rw [q, hs] at this; cases this
  · cases q : h₀.get? p.1 with
    | none => rfl
    | some o =>
      obtain ⟨sl', hs'⟩ := T'.up (st _ _ q)
      have := (N' p hp).2.2
      rw [hs'] at this
      cases this
end
end Mine
end PartY9
section PartY10
open PySem PySem.W PyProof.Rows PySem.Calls
set_option maxRecDepth 100000
set_option maxHeartbeats 4000000
namespace Mine
section
variable {prog : Program} {w : World} {A A₀ : Around} {base : Heap} {outer : List Env} {s : Shared} {h₀ : Heap} {L a : Addr} {m : Str → Option Value} {cn : Str} {cs : Scope} {ccd : Value} {news : List (Addr × Obj)} {K : Frag} {p : Program} {loose : List Str} {mean : ExcName → Option Value} {mg mb : Str → Option Value}
    {R : Result → Shared → Prop} {name qual : Str} {params : Arguments} {body : List Stmt} {scope : Scope} {dV kV doc pm cdv ct oc : Value} {an od : Option Addr} {osl : Array (Option Value)} {f : Addr} {args : Args} {binds : List (Str × Value)}
/-- a def that raises, called under the caller -/
theorem codeP_def_raises (B : Below A₀ base outer h₀) (F : Fr h₀ L s.heap m) (X₀ : K.In h₀) (N : News h₀ L s.heap news) (T : Top p loose mean mg mb h₀) (hA : A.frames = some (envOf cn cs L a ccd :: outer))
    (ho : K.lookup f = some ⟨oc, od, .func (fnOf name qual params body scope dV kV doc pm an cdv ct), osl⟩) (hcd : codeIn K cdv qual = true) (hroom : A.depth < recursionLimit)
    (hbind : BindsTo s (fnOf name qual params body scope dV kV doc pm an cdv ct) args binds) (hloc : ∀ y ∈ binds, scope.names.lookup y.1 = some .local)
    (h : ∀ g L' h₁, Fr h₀ L g m → Fr g L' h₁ (fun y => binds.reverse.lookup y) → News g L' h₁ news → Below A base (envOf cn cs L a ccd :: outer) g → K.In g → Top p loose mean mg mb g →
      wpP (model prog w) (A.deeper (envOf qual scope L' f cdv)) (execs body (envOf qual scope L' f cdv)) (fun _ _ => False)
        (fun e s' => wpAny (model prog w) (A.deeper (envOf qual scope L' f cdv)) (leaving (envOf qual scope L' f cdv) e) (fun _ s'' => R (.error e) s'') (fun e' s'' => R (.error e') s'') s')
        { s with heap := h₁, toks := s.toks + binds.length })
    (hck : cs.kind = .function) (hco : scope.isCoroutine = false) (hgen : scope.isGenerator = false) (hk : scope.kind = .function)
    (hcell : ∀ x ∈ scope.names, x.2 ≠ .cell) : codeP (model prog w) A (.call (.ref f) args) R s := by
  have X := X₀.keeps F.keep
  refine codeP_call_def (fd := fnOf name qual params body scope dV kV doc pm an cdv ct) (body := body) (binds := binds) hroom (X _ _ ho) rfl (T.nolimit.keeps F.keep) (codeRec_of X hcd) rfl hbind hcell hloc (fun h₁ hns hk₁ => ?_) hco hgen hk
  obtain ⟨oL, es, ep, hLg, hLd, hN, hNs, st, B₂⟩ := kts_enter B F N hA hck
  exact wpP_mono (h _ s.heap.objs.size h₁ ⟨hN _ hLg, st, F.above⟩ ⟨hns, fun b o e => hk₁ b o (of_hideAll _ e), Nat.le_of_eq (hideAll_size _ _)⟩
    (fun p hp => ⟨hk₁ _ _ (N p hp).1, Nat.ne_of_lt (Heap.lt_size (N p hp).1), hideAll_none _ (List.mem_map_of_mem hp)⟩) B₂ (X₀.keeps st) (T.keeps st)) (fun fl s' (hl : False) => False.elim hl) fun _ _ y => y
end
end Mine
end PartY10
section PartY11
open PySem PySem.W PyProof.Rows PySem.Calls
set_option maxRecDepth 100000
set_option maxHeartbeats 4000000
namespace Mine
/-! ## calls under the caller, in the shape that the walk meets -/
section
variable {M : Model} {A : Around} {E : Value → Shared → Prop} {s : Shared} {env : Env} {pos : Pos} {e : Expr} {rest : List Expr}
theorem back_cons (he : starEach (e :: rest) env = (false, eval e env) :: starEach rest env) : backTo pos (starEach (e :: rest) env) = (false, eval e env) :: backTo pos (starEach rest env) := by rw [he]; rfl
theorem p_cw_type {T : String} {Q : Value → Shared → Prop} (h : wpP M A (spliced (backTo pos (starEach (e :: rest) env))) (fun vs s₁ => wpP M A (call (.type T) vs) Q E s₁) E s)
    (he : starEach (e :: rest) env = (false, eval e env) :: starEach rest env := by rfl) (hp : (backTo pos (starEach rest env)).any (·.1) = false := by rfl) : wpP M A (callWith pos (.type T) [] (backTo pos (starEach (e :: rest) env)) []) Q E s := by
  rw [back_cons he] at h ⊢
  exact p_callWith_type hp h
theorem p_cw_builtin {id : String} {Q : Value → Shared → Prop} (h : wpP M A (spliced (backTo pos (starEach (e :: rest) env))) (fun vs s₁ => wpP M A (call (.builtin id) vs) Q E s₁) E s)
    (he : starEach (e :: rest) env = (false, eval e env) :: starEach rest env := by rfl) (hp : (backTo pos (starEach rest env)).any (·.1) = false := by rfl) : wpP M A (callWith pos (.builtin id) [] (backTo pos (starEach (e :: rest) env)) []) Q E s := by
  rw [back_cons he] at h ⊢
  exact p_callWith_builtin hp h
theorem p_cw_def {K : Frag} {a : Addr} {oc : Value} {od : Option Addr} {osl : Array (Option Value)} {fd : FuncData} {Q : Value → Shared → Prop} (ho : K.lookup a = some ⟨oc, od, .func fd, osl⟩)
    (h : wpP M A (spliced (backTo pos (starEach (e :: rest) env))) (fun vs s₁ => K.In s₁.heap ∧ wpP M A (call (.ref a) vs) Q E s₁) E s)
    (he : starEach (e :: rest) env = (false, eval e env) :: starEach rest env := by rfl) (hp : (backTo pos (starEach rest env)).any (·.1) = false := by rfl) : wpP M A (callWith pos (.ref a) [] (backTo pos (starEach (e :: rest) env)) []) Q E s := by
  rw [back_cons he] at h ⊢
  exact p_callWith_function (o := ⟨oc, od, .func fd, osl⟩) (fd := fd) hp (wpP_mono h (fun _ _ h₁ => ⟨⟨h₁.1 _ _ ho, rfl⟩, h₁.2⟩) fun _ _ e => e)
theorem p_sp_one {Q : List Value → Shared → Prop} (h : wpP M A (eval e env) (fun v s₁ => Q [v] s₁) E s) (he : starEach (e :: []) env = (false, eval e env) :: starEach [] env := by rfl) : wpP M A (spliced (backTo pos (starEach [e] env))) Q E s := by
  rw [back_cons he]
  exact p_spliced_one h
end
end Mine
end PartY11
section PartY12
open PySem PySem.W PyProof.Rows PySem.Calls
set_option maxRecDepth 100000
set_option maxHeartbeats 4000000
namespace Mine
/-! ## the law's own frame under the caller -/
section
variable {M : Model} {A : Around} {c : ClaimW} {cl : Str → Option Addr} {mean : ExcName → Option Value} {args : List WData} {s s₁ : Shared}
theorem codeP_mono {cd : Code} {R R' : Result → Shared → Prop} (h : codeP M A cd R s) (hR : ∀ r s, R r s → R' r s) : codeP M A cd R' s := fun Γ p hc hΓ hL => wpCode_mono hR (h Γ p hc hΓ hL)
theorem enter_callP {f : Value} {pos : List Value} {kw : List (Str × Value)} (h : codeP M A (.call f ⟨pos, kw⟩) (GoodWG c cl mean args s₁) s) :
    wpP M A (PySem.call f pos kw) (fun v s' => GoodWG c cl mean args s₁ (.ok (.ret v)) s') (fun e s' => GoodWG c cl mean args s₁ (.error e) s') s :=
  wpP_call (codeP_mono h fun res s' g => by rcases g.1 with ⟨v, _, _, rfl, _⟩ | ⟨e, _, _, rfl, _⟩ <;> exact g)
theorem goodW_bool0 {b : Bool} (hg : s₁.gens = #[]) (hn : ∀ cls, c.raises args cls = false) (hp : c.post args (.bool b) args = true) : GoodW c cl mean args s₁ (.ok (.ret (.bool b))) s₁ :=
  ⟨.inl ⟨.bool b, .bool b, [], rfl, hn, .bool b, hp, unshared_nil⟩, fun _ _ e => e, rfl, hg⟩
end
theorem call_fullP {prog : Program} {w : World} {A : Around} {R : Result → Shared → Prop} {s : Shared} {name : Str} {params : Arguments} {body : List Stmt} {scope : Scope}
    {dV kV pm cd doc : Value} {a : Addr} {o : Obj} {args : Args} {binds : List (Str × Value)}
    (hroom : A.depth < recursionLimit) (ho : s.heap.get? a = some o) (hdata : o.data = .func { docDef name params body scope pm cd doc with defaults := dV, kwdefaults := kV }) (hlim : s.heap.NoLimit) (hcd : s.heap.CodeRec cd name)
    (hbind : BindsTo s { docDef name params body scope pm cd doc with defaults := dV, kwdefaults := kV } args binds)
    (hloc : ∀ x ∈ binds, scope.names.lookup x.1 = some .local)
    (h : ∀ h₁, Fr s.heap s.heap.objs.size h₁ (fun x => binds.reverse.lookup x) →
      wpP (model prog w) (A.deeper (envOf name scope s.heap.objs.size a cd)) (execs body (envOf name scope s.heap.objs.size a cd))
        (fun f s' => R (.ok (.ret (match f with | .ret v => v | _ => .none))) s')
        (fun e s' => wpAny (model prog w) (A.deeper (envOf name scope s.heap.objs.size a cd)) (leaving (envOf name scope s.heap.objs.size a cd) e)
          (fun _ s'' => R (.error e) s'') (fun e' s'' => R (.error e') s'') s')
        { s with heap := h₁, toks := s.toks + binds.length })
    (hco : scope.isCoroutine = false := by rfl) (hgen : scope.isGenerator = false := by rfl) (hk : scope.kind = .function := by rfl)
    (hcell : ∀ x ∈ scope.names, x.2 ≠ .cell := by decide) :
    codeP (model prog w) A (.call (.ref a) args) R s :=
  codeP_call_def hroom ho hdata hlim hcd rfl hbind hcell hloc (fun h₁ hns hkeep => h h₁ ⟨hns, hkeep, Nat.le_refl _⟩) hco hgen hk
end Mine
end PartY12
section PartP
open PySem PySem.W PyProof.Rows PySem.Spec PySem.Calls
set_option maxRecDepth 100000
set_option maxHeartbeats 8000000
namespace Mine

noncomputable abbrev TheProg : Program := PySem.Challenge.rw_dm5002_01.row.prog
noncomputable abbrev TheLoose : List Str := looseW hd.view_39 [Str.ofString "_twin_re_1", Str.ofString "hexdigits", Str.ofString "decode"]

/-- the text's own objects without the statics, which a refusal may change -/
def K9 (P : Params) : Frag := (fun (x : Addr × Obj) (r : Frag) (_ : hd.heap_39 P = x :: r) => r) _ _ rfl
theorem K9_eq (P : Params) : K9 P = (hd.heap_39 P).tail := rfl
theorem K9_not (P : Params) : (K9 P).lookup cStatics = none := by with_unfolding_all rfl
theorem K9_in {P : Params} {h : Heap} (X : (hd.heap_39 P).In h) : (K9 P).In h := fun a o e => by
  by_cases ha : a = cStatics
  · rw [ha, K9_not] at e
    cases e
  · refine X a o ?_
    have e2 : ∃ b, hd.heap_39 P = (cStatics, b) :: K9 P := ⟨_, rfl⟩
    obtain ⟨b, e2⟩ := e2
    rw [e2, List.lookup_cons]
    have : (a == cStatics) = false := beq_false_of_ne ha
    rw [this]
    exact e

abbrev Ctr (D U : Nat) (w : World) (mean : ExcName → Option Value) (mg mb : Str → Option Value) (f : Addr) (vs : List Value) (R : Tok → Value) : Prop :=
  ∀ (news : List (Addr × Obj)) (dp un : Nat) (gd : Option (List Code)) (cn : Str) (cs : Scope) (a : Addr) (ccd : Value) (cl : List (Str × Addr)) (outer : List Env) (A₀ : Around) (base h₀ : Heap) (L : Addr) (m : Str → Option Value) (s : Shared) (Q E : Value → Shared → Prop),
    Below A₀ base outer h₀ → Fr h₀ L s.heap m → (K9 w.params).In h₀ → News h₀ L s.heap news → Top hd.view_39 TheLoose mean mg mb h₀ → cs.kind = .function →
    dp + D < recursionLimit → un + U < cLine → CbRet h₀ L m news s Q R →
      wpAny (model TheProg w) (ktrTop dp un gd cn cs L a ccd cl outer) (call (.ref f) vs) Q E s
end Mine
end PartP
section PartU
open PySem PySem.W PyProof.Rows PySem.Spec PySem.Calls
set_option maxRecDepth 100000
set_option maxHeartbeats 8000000
namespace Mine
local macro_rules | `(tactic| walk_at "call type:int") => `(tactic| ((with_reducible show wpAny _ _ (call (Value.type "int") [Value.str _ _, Value.int _ _]) _ _ _); refine' call_int16_some ?i1 ?i2 ?_; (case i1 => assumption); (case i2 => (exact Nat.le_trans (slice_13_le _) (by decide)))))
theorem unquote_ctr (w : World) (mean : ExcName → Option Value) (mg mb : Str → Option Value) (x : Str) (t : Tok) (n : Int) (hx : x.length ≤ 1000) (hn : int16? (Txt.slice x (some 1) (some 3)) = some n) (h0 : 0 ≤ n) (h1 : n < 256) :
    Ctr 5 50 w mean mg mb 43 [.str x t] (fun t => .str ⟨#[n.toNat]⟩ t) := by
  unfold Ctr TheProg
  k_fill
  intro news dp un gd cn cs a ccd cl outer A₀ base h₀ L m s Q E B F X N T hk hd hu hret
  dsimp only [CbRet] at hret
  refine wpAny_call ?_
  k_dflt (refine' code_def ?k1 ?k2 ?k3 ?k4 ?k5 ?kA ?kF ?kK ?k6 ?k7 ?k8 ?k9 ?kB ?_ ?c2 ?c3 ?c4 ?c5; (case kA => exact rfl); (case kF => exact rfl); (case kK => first | assumption | exact rfl); (case k1 => k_asm); (case k2 => k_asm); (case k3 => k_asm); (case k4 => k_asm); (case k5 => k_asm); (case k6 => k_is); (case k7 => k_is); (case k8 => ktr_room); (case k9 => first | exact BindsTo.of_eq rfl | exact binds_K (by k_in) rfl (by k_is) rfl rfl rfl); (case c5 => decide); (case kB => exact locs rfl); (case c2 => exact rfl); (case c3 => exact rfl); (case c4 => exact rfl); k_whole; intro g' L' h' FG' F' N' B' X' T'; (try dsimp only); (try k_lift B'); (try k_fold))
  k_steps
  all_goals exact hret _ _ _ (by k_asm) (by k_asm)
end Mine
end PartU
section PartD
open PySem PySem.W PyProof.Rows PySem.Spec PySem.Calls
set_option maxRecDepth 100000
set_option maxHeartbeats 8000000
set_option linter.unusedSimpArgs false
namespace Mine
theorem decode_ctr (w : World) (mean : ExcName → Option Value) (mg mb : Str → Option Value) (x : Str) (t : Tok) (hx : x.length ≤ 1000) : 
    Ctr 10 100 w mean mg mb 51 [.str x t] (fun t => .str (decS x) t) := by
  unfold Ctr TheProg
  k_fill
  intro news dp un gd cn cs a ccd cl outer A₀ base h₀ L m s Q E B F X N T hk hd hu hret
  dsimp only [CbRet] at hret
  refine wpAny_call ?_
  k_dflt (refine' code_def ?k1 ?k2 ?k3 ?k4 ?k5 ?kA ?kF ?kK ?k6 ?k7 ?k8 ?k9 ?kB ?_ ?c2 ?c3 ?c4 ?c5; (case kA => exact rfl); (case kF => exact rfl); (case kK => first | assumption | exact rfl); (case k1 => k_asm); (case k2 => k_asm); (case k3 => k_asm); (case k4 => k_asm); (case k5 => k_asm); (case k6 => k_is); (case k7 => k_is); (case k8 => ktr_room); (case k9 => first | exact BindsTo.of_eq rfl | exact binds_K (by k_in) rfl (by k_is) rfl rfl rfl); (case c5 => decide); (case kB => exact locs rfl); (case c2 => exact rfl); (case c3 => exact rfl); (case c4 => exact rfl); k_whole; intro g' L' h' FG' F' N' B' X' T'; (try dsimp only); (try k_lift B'); (try k_fold))
  repeat' ((fail_if_success (with_reducible show wpAny _ _ (PySem.exec (PySem.Stmt.While _ _ _ _) _) _ _ _)); (fail_if_success (with_reducible show wpAny _ _ (PySem.pyIter _) _ _ _)); (fail_if_success (with_reducible show wpAny _ _ (PySem.call (PySem.Value.ref _) _ _) _ _ _)); (fail_if_success (with_reducible show InvEndN _ _ _ _ _ _ _)); (fail_if_success (with_reducible show KswEnd _ _ _ _ _ _ _ _ _ _ _ _)); (first | (k_unfold; (try dsimp only)) | (k_end; wrow_close) | walk1 | (dsimp only; walk1) | (leave1; try dsimp only) | fail "no step"))
  · rename_i hne hA FA NA ls hB kB e1 e2 e3 e4 FB NB
    have hw9 := StrLaws.lines_weight x
    refine' kv_list (fun _ => news) (fun c => [(Str.ofString "decoded", .str c.1 c.2)]) [Str.ofString "i", Str.ofString "n", Str.ofString "c"] (fun i (c : Str × Tok) => c.1.cps.toList = ((Txt.lines x).take i).flatMap goS) (⟨Str.ofString "", ?tok⟩ : Str × Tok) rfl e4 ?hlL ?hln FB ?hN ?hk ?hp ?turn ?done
    case hk => exact List.forall_mem_cons.mpr ⟨by with_unfolding_all rfl, List.forall_mem_nil _⟩
    case hlL => exact Nat.ne_of_gt FA.ns.lt
    case hln => exact fun q hq => Nat.ne_of_lt (Heap.lt_size (NA q hq).1)
    case hN => exact fun p hp => NB p (List.mem_cons_of_mem _ hp)
    case hp => rfl
    case turn =>
      rintro ⟨d, td⟩ i v u hT tkT own hv hoff hP FT NT
      obtain ⟨y, ty, rfl, hy⟩ := StrsAre.item e2 i v hv
      have hP' : d.cps.toList = ((Txt.lines x).take i).flatMap goS := hP
      have hdl : d.length ≤ 2000 := by
        have q1 := goS_take x i
        have q2 : d.cps.toList.length = d.length := Array.length_toList
        rw [hP'] at q2
        omega
      have hyl : y.length ≤ 1000 := by
        have q1 := e3 y (List.mem_of_getElem? hy)
        omega
      (try dsimp only at FT)
      (try k_fold)
      repeat' ((fail_if_success (with_reducible show wpAny _ _ (PySem.exec (PySem.Stmt.While _ _ _ _) _) _ _ _)); (fail_if_success (with_reducible show wpAny _ _ (PySem.pyIter _) _ _ _)); (fail_if_success (with_reducible show wpAny _ _ (PySem.call (PySem.Value.ref _) _ _) _ _ _)); (fail_if_success (with_reducible show InvEndN _ _ _ _ _ _ _)); (fail_if_success (with_reducible show KswEnd _ _ _ _ _ _ _ _ _ _ _ _)); (first | (k_unfold; (try dsimp only)) | (k_end; wrow_close) | walk1 | (dsimp only; walk1) | (leave1; try dsimp only) | fail "no step"))
      · rename_i FW NW
        have hrl : (Txt.rstrip y).cps.toList.length = (Txt.rstrip y).length := Array.length_toList
        refine' ksw_while (fun _ => news ++ own) (fun c => [(Str.ofString "i", .int c.1 c.2.1), (Str.ofString "decoded", .str c.2.2.1 c.2.2.2)]) (fun _ => True) [Str.ofString "c"]
          (fun (c : Int × Tok × Str × Tok) => 0 ≤ c.1 ∧ At (Txt.rstrip y) c.2.2.1 c.1.toNat (d.cps.toList ++ goS y))
          (fun c => (Txt.rstrip y).length - c.1.toNat) (⟨0, ?wtk1, d, ?wtk2⟩ : Int × Tok × Str × Tok) FW NW trivial ?whk ?whp ?wturn ?whE
        case whk => exact (List.forall_mem_cons.mpr ⟨by with_unfolding_all rfl, List.forall_mem_cons.mpr ⟨by with_unfolding_all rfl, List.forall_mem_nil _⟩⟩)
        case whp =>
          rename_i hne2 _ _ _ _
          exact ⟨Int.le_refl _, .inl ⟨by show 0 < (Txt.rstrip y).length; omega, by simp [goS]⟩⟩
        case whE => walk1
        case wturn =>
          rintro ⟨j', tj, dd, tdd⟩ u2 hW tkW hF hPW0 FW2 NW2
          obtain ⟨hj0, hPW⟩ := hPW0
          obtain ⟨j, rfl⟩ := Int.eq_ofNat_of_zero_le hj0
          have hPW : At (Txt.rstrip y) dd j (d.cps.toList ++ goS y) := hPW
          have hj : j ≤ (Txt.rstrip y).length := by
            rcases hPW with q | q
            · exact Nat.le_of_lt q.1
            · exact Nat.le_of_eq q.1
          have hgl := goS_len y
          have hddl : dd.length ≤ 4000 := by
            have q2 : dd.cps.toList.length = dd.length := Array.length_toList
            have q3 : d.cps.toList.length = d.length := Array.length_toList
            rcases hPW with q | q
            · have q4 := congrArg List.length q.2
              simp only [List.length_append] at q4
              omega
            · have q4 := congrArg List.length q.2
              simp only [List.length_append] at q4
              omega
          have eT1 : ((j : Int) + 1).toNat = j + 1 := by omega
          have eT3 : ((j : Int) + 3).toNat = j + 3 := by omega
          (try dsimp only at FW2)
          (try k_fold)
          repeat' ((fail_if_success (with_reducible show wpAny _ _ (PySem.exec (PySem.Stmt.While _ _ _ _) _) _ _ _)); (fail_if_success (with_reducible show wpAny _ _ (PySem.pyIter _) _ _ _)); (fail_if_success (with_reducible show wpAny _ _ (PySem.call (PySem.Value.ref _) _ _) _ _ _)); (fail_if_success (with_reducible show InvEndN _ _ _ _ _ _ _)); (fail_if_success (with_reducible show KswEnd _ _ _ _ _ _ _ _ _ _ _ _)); (first | (k_unfold; (try dsimp only)) | (k_end; wrow_close) | walk1 | (dsimp only; walk1) | (leave1; try dsimp only) | fail "no step"))
          all_goals (first
            | (exfalso; omega)
            | ((with_reducible show KswEnd _ _ _ _ _ _ _ _ _ _ _ _)
               (rename Fr _ _ _ _ => F9x); (rename News _ _ _ _ => N9x)
               (first
                | ((have hE9 : (j : Int) + 1 = ((Txt.rstrip y).length : Int) := by with_reducible assumption)
                   (have hC9 : (Txt.item (Txt.rstrip y) (j : Int) != Str.ofString "=") = false := by with_reducible assumption)
                   (have hG9 : At (Txt.rstrip y) dd ((j : Int) + 1).toNat (d.cps.toList ++ goS y) := .inr ⟨by omega, way_soft hPW (by with_reducible assumption) hC9 hE9⟩)
                   refine' ksw_end (⟨(j : Int) + 1, _, dd, tdd⟩ : Int × Tok × Str × Tok) F9x N9x (fun _ hp => hp) trivial (List.forall_mem_cons.mpr ⟨by with_unfolding_all rfl, List.forall_mem_cons.mpr ⟨by with_unfolding_all rfl, List.forall_mem_nil _⟩⟩) ?_ ⟨?_, hG9⟩ ?_
                   · (intro z9 h29 h39; (simp only [List.forall_mem_cons, List.not_mem_nil, false_implies, implies_true, and_true, ne_eq] at h29); (simp only [List.contains_cons, List.contains_nil, Bool.or_false, Bool.or_eq_false_iff, beq_eq_false_iff_ne, ne_eq] at h39); (simp [kstB, h29, h39]; done))
                   · (try dsimp only); omega
                   · (try dsimp only); omega)
                | ((have hE9 : (j : Int) + 1 = ((Txt.rstrip y).length : Int) := by with_reducible assumption)
                   (have hG9 : At (Txt.rstrip y) (dd ++ Txt.item (Txt.rstrip y) (j : Int) ++ Str.ofString "\n") ((j : Int) + 1).toNat (d.cps.toList ++ goS y) := .inr ⟨by omega, end_gen hE9 (way_emit hPW (by with_reducible assumption) (by with_reducible assumption))⟩)
                   refine' ksw_end (⟨(j : Int) + 1, _, dd ++ Txt.item (Txt.rstrip y) (j : Int) ++ Str.ofString "\n", _⟩ : Int × Tok × Str × Tok) F9x N9x (fun _ hp => hp) trivial (List.forall_mem_cons.mpr ⟨by with_unfolding_all rfl, List.forall_mem_cons.mpr ⟨by with_unfolding_all rfl, List.forall_mem_nil _⟩⟩) ?_ ⟨?_, hG9⟩ ?_
                   · (intro z9 h29 h39; (simp only [List.forall_mem_cons, List.not_mem_nil, false_implies, implies_true, and_true, ne_eq] at h29); (simp only [List.contains_cons, List.contains_nil, Bool.or_false, Bool.or_eq_false_iff, beq_eq_false_iff_ne, ne_eq] at h39); (simp [kstB, h29, h39]; done))
                   · (try dsimp only); omega
                   · (try dsimp only); omega)
                | ((have hE9 : (j : Int) + 1 ≠ ((Txt.rstrip y).length : Int) := by with_reducible assumption)
                   (have hP9 : (dd ++ Txt.item (Txt.rstrip y) (j : Int)).cps.toList ++ lineGo ((Txt.rstrip y).cps.toList.drop (j + 1)) = d.cps.toList ++ goS y := by first | exact way_emit hPW (by with_reducible assumption) (by with_reducible assumption) | exact way_eq3 hPW (by with_reducible assumption) (by with_reducible assumption) hE9 (by with_reducible assumption) | exact way_eq1 hPW (by with_reducible assumption) (by with_reducible assumption) (by with_reducible assumption) (by with_reducible assumption) | exact way_eq2 hPW (by with_reducible assumption) (by with_reducible assumption) (by with_reducible assumption) (by with_reducible assumption))
                   (have hG9 : At (Txt.rstrip y) (dd ++ Txt.item (Txt.rstrip y) (j : Int)) ((j : Int) + 1).toNat (d.cps.toList ++ goS y) := .inl ⟨by omega, by rw [eT1]; exact hP9⟩)
                   refine' ksw_end (⟨(j : Int) + 1, _, dd ++ Txt.item (Txt.rstrip y) (j : Int), _⟩ : Int × Tok × Str × Tok) F9x N9x (fun _ hp => hp) trivial (List.forall_mem_cons.mpr ⟨by with_unfolding_all rfl, List.forall_mem_cons.mpr ⟨by with_unfolding_all rfl, List.forall_mem_nil _⟩⟩) ?_ ⟨?_, hG9⟩ ?_
                   · (intro z9 h29 h39; (simp only [List.forall_mem_cons, List.not_mem_nil, false_implies, implies_true, and_true, ne_eq] at h29); (simp only [List.contains_cons, List.contains_nil, Bool.or_false, Bool.or_eq_false_iff, beq_eq_false_iff_ne, ne_eq] at h39); (simp [kstB, h29, h39]; done))
                   · (try dsimp only); omega
                   · (try dsimp only); omega)))
            | skip)
          · rename_i FU NU _
            obtain ⟨hn9, hv9⟩ := pair_in (L := Txt.rstrip y) (j := j) (by with_reducible assumption) (by with_reducible assumption) (by with_reducible assumption)
            have hG9 := way_oct hPW (by with_reducible assumption) (by with_reducible assumption) (by with_reducible assumption) (by with_reducible assumption) (by with_reducible assumption)
            refine' unquote_ctr w mean mg mb _ _ _ (Nat.le_trans (Txt.slice_le _ _ _) ?_) hn9 ?_ ?_ _ _ _ _ _ _ _ _ _ _ _ _ _ _ _ _ _ _ B' FU X' NU T' rfl ?_ ?_ ?_
            · omega
            · omega
            · omega
            · (try simp only [depth_under_make, depth_under_kw, depth_in1, depth_deeper, depth_caller]); (try dsimp only [ktrTop]); omega
            · (try simp only [units_in1, units_deeper, Around.mark_units, units_caller]); (try dsimp only [ktrTop]); omega
            intro t9 h9 tk9 F9 N9
            rw [Int.toNat_natCast]
            have hL9 : (⟨#[pairVal (Txt.rstrip y) j]⟩ : Str).length = 1 := rfl
            (try dsimp only)
            (try k_fold)
            repeat' ((fail_if_success (with_reducible show wpAny _ _ (PySem.exec (PySem.Stmt.While _ _ _ _) _) _ _ _)); (fail_if_success (with_reducible show wpAny _ _ (PySem.pyIter _) _ _ _)); (fail_if_success (with_reducible show wpAny _ _ (PySem.call (PySem.Value.ref _) _ _) _ _ _)); (fail_if_success (with_reducible show InvEndN _ _ _ _ _ _ _)); (fail_if_success (with_reducible show KswEnd _ _ _ _ _ _ _ _ _ _ _ _)); (first | (k_unfold; (try dsimp only)) | (k_end; wrow_close) | walk1 | (dsimp only; walk1) | (leave1; try dsimp only) | fail "no step"))
            · rename_i FV NV
              have hE9 : (j : Int) + 3 = ((Txt.rstrip y).length : Int) := by with_reducible assumption
              have hA9 : At (Txt.rstrip y) (dd ++ (⟨#[pairVal (Txt.rstrip y) j]⟩ : Str) ++ Str.ofString "\n") ((j : Int) + 3).toNat (d.cps.toList ++ goS y) := .inr ⟨by omega, end_oct hE9 hG9⟩
              refine' ksw_end (⟨(j : Int) + 3, _, dd ++ (⟨#[pairVal (Txt.rstrip y) j]⟩ : Str) ++ Str.ofString "\n", _⟩ : Int × Tok × Str × Tok) FV NV (fun _ hp => hp) trivial (List.forall_mem_cons.mpr ⟨by with_unfolding_all rfl, List.forall_mem_cons.mpr ⟨by with_unfolding_all rfl, List.forall_mem_nil _⟩⟩) ?_ ⟨?_, hA9⟩ ?_
              · (intro z9 h29 h39; (simp only [List.forall_mem_cons, List.not_mem_nil, false_implies, implies_true, and_true, ne_eq] at h29); (simp only [List.contains_cons, List.contains_nil, Bool.or_false, Bool.or_eq_false_iff, beq_eq_false_iff_ne, ne_eq] at h39); (simp [kstB, h29, h39]; done))
              · (try dsimp only); omega
              · (try dsimp only); omega
            · rename_i FV NV hE9
              have hA9 : At (Txt.rstrip y) (dd ++ (⟨#[pairVal (Txt.rstrip y) j]⟩ : Str)) ((j : Int) + 3).toNat (d.cps.toList ++ goS y) := .inl ⟨by omega, by rw [eT3]; exact hG9⟩
              refine' ksw_end (⟨(j : Int) + 3, _, dd ++ (⟨#[pairVal (Txt.rstrip y) j]⟩ : Str), _⟩ : Int × Tok × Str × Tok) FV NV (fun _ hp => hp) trivial (List.forall_mem_cons.mpr ⟨by with_unfolding_all rfl, List.forall_mem_cons.mpr ⟨by with_unfolding_all rfl, List.forall_mem_nil _⟩⟩) ?_ ⟨?_, hA9⟩ ?_
              · (intro z9 h29 h39; (simp only [List.forall_mem_cons, List.not_mem_nil, false_implies, implies_true, and_true, ne_eq] at h29); (simp only [List.contains_cons, List.contains_nil, Bool.or_false, Bool.or_eq_false_iff, beq_eq_false_iff_ne, ne_eq] at h39); (simp [kstB, h29, h39]; done))
              · (try dsimp only); omega
              · (try dsimp only); omega
          · rename_i hov
            refine' kv_end (dd, tdd) FW2 NW2 (fun p hp => List.mem_append_left _ hp) (fun p hp => List.mem_append_right _ hp) rfl (List.forall_mem_cons.mpr ⟨by with_unfolding_all rfl, List.forall_mem_nil _⟩) ?_ ?_
            · (intro z9 h19 h29 h39; (simp only [List.forall_mem_cons, List.not_mem_nil, false_implies, implies_true, and_true, ne_eq] at h29); (simp only [List.contains_cons, List.contains_nil, Bool.or_false, Bool.or_eq_false_iff, beq_eq_false_iff_ne, ne_eq] at h39); (simp [kstB, h19, h29, h39]; done))
            · show dd.cps.toList = _
              rw [hPW.over hov, take_go e1 hy, hP']
      · rename_i FV NV
        refine' kv_end (d ++ Str.ofString "\n", _) FV NV (fun p hp => List.mem_append_left _ hp) (fun p hp => List.mem_append_right _ hp) rfl (List.forall_mem_cons.mpr ⟨by with_unfolding_all rfl, List.forall_mem_nil _⟩) ?_ ?_
        · (intro z9 h19 h29 h39; (simp only [List.forall_mem_cons, List.not_mem_nil, false_implies, implies_true, and_true, ne_eq] at h29); (simp only [List.contains_cons, List.contains_nil, Bool.or_false, Bool.or_eq_false_iff, beq_eq_false_iff_ne, ne_eq] at h39); (simp [kstB, h19, h29, h39]; done))
        · show (d ++ Str.ofString "\n").cps.toList = _
          rw [take_go e1 hy]
          exact way_empty hP' (by with_reducible assumption)
    case done =>
      rintro ⟨d, td⟩ u hD tkD hP FD ND
      have hP' : d.cps.toList = (Txt.lines x).flatMap goS := by
        have q1 : (strValues ls).length = (Txt.lines x).length := by rw [← e1, StrsAre.len_eq e2]
        have q2 : d.cps.toList = ((Txt.lines x).take (strValues ls).length).flatMap goS := hP
        rw [q1, List.take_length] at q2
        exact q2
      have hdl : d.length ≤ 2000 := by
        have q1 := goS_all (Txt.lines x)
        have q2 : d.cps.toList.length = d.length := Array.length_toList
        rw [hP'] at q2
        omega
      (try dsimp only at FD)
      (try k_fold)
      repeat' ((fail_if_success (with_reducible show wpAny _ _ (PySem.exec (PySem.Stmt.While _ _ _ _) _) _ _ _)); (fail_if_success (with_reducible show wpAny _ _ (PySem.pyIter _) _ _ _)); (fail_if_success (with_reducible show wpAny _ _ (PySem.call (PySem.Value.ref _) _ _) _ _ _)); (fail_if_success (with_reducible show InvEndN _ _ _ _ _ _ _)); (fail_if_success (with_reducible show KswEnd _ _ _ _ _ _ _ _ _ _ _ _)); (first | (k_unfold; (try dsimp only)) | (k_end; wrow_close) | walk1 | (dsimp only; walk1) | (leave1; try dsimp only) | fail "no step"))
      · exact ret_str hret (dec_cut hne hP' (by with_reducible assumption) (by with_reducible assumption)) (by k_asm) (by k_asm)
      · exact ret_str hret (dec_keep1 hne hP' (by with_reducible assumption)) (by k_asm) (by k_asm)
      · exact ret_str hret (dec_keep2 hne hP' (by with_reducible assumption)) (by k_asm) (by k_asm)
  · exact ret_str hret (dec_empty (by with_reducible assumption)) (by k_asm) (by k_asm)
end Mine
end PartD
section PartE
open PySem PySem.W PyProof.Rows PySem.Spec PySem.Calls
set_option maxRecDepth 100000
set_option maxHeartbeats 8000000
set_option linter.unusedSimpArgs false
namespace Mine
theorem um_ctr (w : World) (mean : ExcName → Option Value) (mg mb : Str → Option Value) (x : Str) (t : Tok) (i lim : Nat) (mo tp : Addr) (hx : x.length ≤ 1000) (hi3 : i + 3 ≤ x.length) (hb1 : isHex (x.cps.toList.getD (i + 1) 0) = true) (hb2 : isHex (x.cps.toList.getD (i + 2) 0) = true) :
  ∀ (news : List (Addr × Obj)) (dp un : Nat) (gd : Option (List Code)) (cn : Str) (cs : Scope) (a : Addr) (ccd : Value) (cl : List (Str × Addr)) (outer : List Env) (A₀ : Around) (base h₀ : Heap) (L : Addr) (m : Str → Option Value) (s : Shared) (Q E : Value → Shared → Prop),
    Below A₀ base outer h₀ → Fr h₀ L s.heap m → (K9 w.params).In h₀ → News h₀ L s.heap news → Top hd.view_39 TheLoose mean mg mb h₀ → cs.kind = .function → (mo, matchObj x t lim tp) ∈ news → (tp, spanObj i (i + 3)) ∈ news →
    dp + 8 < recursionLimit → un + 80 < cLine → CbRet h₀ L m news s Q (fun t => .str ⟨#[pairVal x i]⟩ t) →
      wpAny (model TheProg w) (ktrTop dp un gd cn cs L a ccd cl outer) (call (.ref 58) [.ref mo]) Q E s := by
  unfold TheProg
  k_fill
  intro news dp un gd cn cs a ccd cl outer A₀ base h₀ L m s Q E B F X N T hk hm1 hm2 hd hu hret
  dsimp only [CbRet] at hret
  refine wpAny_call ?_
  k_dflt (refine' code_def ?k1 ?k2 ?k3 ?k4 ?k5 ?kA ?kF ?kK ?k6 ?k7 ?k8 ?k9 ?kB ?_ ?c2 ?c3 ?c4 ?c5; (case kA => exact rfl); (case kF => exact rfl); (case kK => first | assumption | exact rfl); (case k1 => k_asm); (case k2 => k_asm); (case k3 => k_asm); (case k4 => k_asm); (case k5 => k_asm); (case k6 => k_is); (case k7 => k_is); (case k8 => ktr_room); (case k9 => first | exact BindsTo.of_eq rfl | exact binds_K (by k_in) rfl (by k_is) rfl rfl rfl); (case c5 => decide); (case kB => exact locs rfl); (case c2 => exact rfl); (case c3 => exact rfl); (case c4 => exact rfl); k_whole; intro g' L' h' FG' F' N' B' X' T'; (try dsimp only); (try k_lift B'); (try k_fold))
  repeat' ((fail_if_success (with_reducible show wpAny _ _ (PySem.exec (PySem.Stmt.While _ _ _ _) _) _ _ _)); (fail_if_success (with_reducible show wpAny _ _ (PySem.pyIter _) _ _ _)); (fail_if_success (with_reducible show wpAny _ _ (PySem.call (PySem.Value.ref _) _ _) _ _ _)); (fail_if_success (with_reducible show InvEndN _ _ _ _ _ _ _)); (fail_if_success (with_reducible show KswEnd _ _ _ _ _ _ _ _ _ _ _ _)); (first | (k_unfold; (try dsimp only)) | (k_end; wrow_close) | walk1 | (dsimp only; walk1) | (leave1; try dsimp only) | fail "no step"))
  refine get_group N' hm1 ?_
  repeat' ((fail_if_success (with_reducible show wpAny _ _ (PySem.exec (PySem.Stmt.While _ _ _ _) _) _ _ _)); (fail_if_success (with_reducible show wpAny _ _ (PySem.pyIter _) _ _ _)); (fail_if_success (with_reducible show wpAny _ _ (PySem.call (PySem.Value.ref _) _ _) _ _ _)); (fail_if_success (with_reducible show InvEndN _ _ _ _ _ _ _)); (fail_if_success (with_reducible show KswEnd _ _ _ _ _ _ _ _ _ _ _ _)); (first | (k_unfold; (try dsimp only)) | (k_end; wrow_close) | walk1 | (dsimp only; walk1) | (leave1; try dsimp only) | fail "no step"))
  refine call_group N' hm1 hm2 hx fun t9 tk9 => ?_
  (try dsimp only)
  (try k_fold)
  repeat' ((fail_if_success (with_reducible show wpAny _ _ (PySem.exec (PySem.Stmt.While _ _ _ _) _) _ _ _)); (fail_if_success (with_reducible show wpAny _ _ (PySem.pyIter _) _ _ _)); (fail_if_success (with_reducible show wpAny _ _ (PySem.call (PySem.Value.ref _) _ _) _ _ _)); (fail_if_success (with_reducible show InvEndN _ _ _ _ _ _ _)); (fail_if_success (with_reducible show KswEnd _ _ _ _ _ _ _ _ _ _ _ _)); (first | (k_unfold; (try dsimp only)) | (k_end; wrow_close) | walk1 | (dsimp only; walk1) | (leave1; try dsimp only) | fail "no step"))
  rename_i FV NV
  obtain ⟨hn9, hv9⟩ := ext_slice hi3 hb1 hb2
  refine' unquote_ctr w mean mg mb _ _ _ ?_ hn9 ?_ ?_ _ _ _ _ _ _ _ _ _ _ _ _ _ _ _ _ _ _ B' FV X' NV T' rfl ?_ ?_ ?_
  · show (x.cps.extract i (i + 3)).size ≤ 1000
    have : x.cps.size ≤ 1000 := hx
    rw [Array.size_extract]
    omega
  · omega
  · omega
  · ((try simp only [depth_under_make, depth_under_kw, depth_in1, depth_deeper, depth_caller]); (try dsimp only [ktrTop]); omega)
  · ((try simp only [units_in1, units_deeper, Around.mark_units, units_caller]); (try dsimp only [ktrTop]); omega)
  intro t8 h8 tk8 F8 N8
  rw [Int.toNat_natCast]
  (try dsimp only)
  (try k_fold)
  repeat' ((fail_if_success (with_reducible show wpAny _ _ (PySem.exec (PySem.Stmt.While _ _ _ _) _) _ _ _)); (fail_if_success (with_reducible show wpAny _ _ (PySem.pyIter _) _ _ _)); (fail_if_success (with_reducible show wpAny _ _ (PySem.call (PySem.Value.ref _) _ _) _ _ _)); (fail_if_success (with_reducible show InvEndN _ _ _ _ _ _ _)); (fail_if_success (with_reducible show KswEnd _ _ _ _ _ _ _ _ _ _ _ _)); (first | (k_unfold; (try dsimp only)) | (k_end; wrow_close) | walk1 | (dsimp only; walk1) | (leave1; try dsimp only) | fail "no step"))
  all_goals exact hret _ _ _ (by k_asm) (by k_asm)

theorem header_ctr (w : World) (mean : ExcName → Option Value) (mg mb : Str → Option Value) (x : Str) (t : Tok) (hx : x.length ≤ 1000) : 
    Ctr 20 200 w mean mg mb 65 [.str x t] (fun t => .str (hdrS x) t) := by
  unfold Ctr TheProg
  k_fill
  intro news dp un gd cn cs a ccd cl outer A₀ base h₀ L m s Q E B F X N T hk hd hu hret
  dsimp only [CbRet] at hret
  refine wpAny_call ?_
  k_dflt (refine' code_def ?k1 ?k2 ?k3 ?k4 ?k5 ?kA ?kF ?kK ?k6 ?k7 ?k8 ?k9 ?kB ?_ ?c2 ?c3 ?c4 ?c5; (case kA => exact rfl); (case kF => exact rfl); (case kK => first | assumption | exact rfl); (case k1 => k_asm); (case k2 => k_asm); (case k3 => k_asm); (case k4 => k_asm); (case k5 => k_asm); (case k6 => k_is); (case k7 => k_is); (case k8 => ktr_room); (case k9 => first | exact BindsTo.of_eq rfl | exact binds_K (by k_in) rfl (by k_is) rfl rfl rfl); (case c5 => decide); (case kB => exact locs rfl); (case c2 => exact rfl); (case c3 => exact rfl); (case c4 => exact rfl); k_whole; intro g' L' h' FG' F' N' B' X' T'; (try dsimp only); (try k_lift B'); (try k_fold))
  have h36 : g'.get? 36 = some (patObj 285 317 (Str.ofString "=[a-fA-F0-9]{2}")) := X' _ _ (by k_is)
  have h35 : g'.get? 35 = some codeObj := X' _ _ (by k_is)
  have h58 : ∃ o, g'.get? 58 = some o ∧ o.cls = .type "function" := ⟨_, X' 58 _ (by k_is), rfl⟩
  refine wpAny_execs_cons ?_
  repeat' ((fail_if_success (with_reducible show wpAny _ _ (PySem.exec (PySem.Stmt.While _ _ _ _) _) _ _ _)); (fail_if_success (with_reducible show wpAny _ _ (PySem.pyIter _) _ _ _)); (fail_if_success (with_reducible show wpAny _ _ (PySem.call (PySem.Value.ref _) _ _) _ _ _)); (fail_if_success (with_reducible show InvEndN _ _ _ _ _ _ _)); (fail_if_success (with_reducible show KswEnd _ _ _ _ _ _ _ _ _ _ _ _)); (first | (k_unfold; (try dsimp only)) | (k_end; wrow_close) | walk1 | (dsimp only; walk1) | (leave1; try dsimp only) | fail "no step"))
  refine get_sub h36 (by k_asm) ?_
  repeat' ((fail_if_success (with_reducible show wpAny _ _ (PySem.exec (PySem.Stmt.While _ _ _ _) _) _ _ _)); (fail_if_success (with_reducible show wpAny _ _ (PySem.pyIter _) _ _ _)); (fail_if_success (with_reducible show wpAny _ _ (PySem.call (PySem.Value.ref _) _ _) _ _ _)); (fail_if_success (with_reducible show InvEndN _ _ _ _ _ _ _)); (fail_if_success (with_reducible show KswEnd _ _ _ _ _ _ _ _ _ _ _ _)); (first | (k_unfold; (try dsimp only)) | (k_end; wrow_close) | walk1 | (dsimp only; walk1) | (leave1; try dsimp only) | fail "no step"))
  rename_i FV NV
  refine call_sub h36 h35 h58 (by rw [replace_len]; exact hx) ?_ FV NV ?_
  · intro i s1 news' mo tp Q1 E1 hmi F1 N1 m1 m2 hret1
    obtain ⟨hi3, hb1, hb2, -⟩ := hdec_match _ i hmi
    refine' um_ctr w mean mg mb _ _ i _ mo tp (by rw [replace_len]; exact hx) hi3 hb1 hb2 _ _ _ _ _ _ _ _ _ _ _ _ _ _ _ _ _ _ B' F1 X' N1 T' rfl m1 m2 ?_ ?_ hret1
    · ((try simp only [depth_under_make, depth_under_kw, depth_in1, depth_deeper, depth_caller]); (try dsimp only [ktrTop]); omega)
    · ((try simp only [units_in1, units_deeper, Around.mark_units, units_caller]); (try dsimp only [ktrTop]); omega)
  intro t9 h9 tk9 F9 N9
  (try dsimp only)
  (try k_fold)
  repeat' ((fail_if_success (with_reducible show wpAny _ _ (PySem.exec (PySem.Stmt.While _ _ _ _) _) _ _ _)); (fail_if_success (with_reducible show wpAny _ _ (PySem.pyIter _) _ _ _)); (fail_if_success (with_reducible show wpAny _ _ (PySem.call (PySem.Value.ref _) _ _) _ _ _)); (fail_if_success (with_reducible show InvEndN _ _ _ _ _ _ _)); (fail_if_success (with_reducible show KswEnd _ _ _ _ _ _ _ _ _ _ _ _)); (first | (k_unfold; (try dsimp only)) | (k_end; wrow_close) | walk1 | (dsimp only; walk1) | (leave1; try dsimp only) | fail "no step"))
  all_goals exact ret_str hret (hdr_eq x) (by k_asm) (by k_asm)
end Mine
end PartE
section PartB1
open PySem PySem.W PyProof.Rows PySem.Spec PySem.Calls PySem.Builtin.Str
set_option maxRecDepth 100000
set_option maxHeartbeats 8000000
set_option linter.unusedSimpArgs false
namespace Mine
theorem worths : ∀ c ∈ [48,49,50,51,52,53,54,55,56,57,97,98,99,100,101,102,65,66,67,68,69,70], Txt.find (Str.ofString "0123456789ABCDEFabcdef") (Txt.upper ⟨#[c]⟩) = (hv c : Nat) := by decide +kernel
def wsB (c : Nat) : Bool := c == 32 || (9 ≤ c && c ≤ 13)
theorem figs_lit : (Str.ofString "0123456789ABCDEFabcdef").cps.toList = [48,49,50,51,52,53,54,55,56,57,65,66,67,68,69,70,97,98,99,100,101,102] := by decide +kernel
theorem some_sign (c : Nat) : ((⟨#[c]⟩ : Str) != Str.ofString "") = true := by rw [s_full]; exact decide_eq_true (by show 1 ≠ 0; decide)
theorem blank_sign (c : Nat) : ((⟨#[c]⟩ : Str) == Str.ofString " ") = (c == 32) := by rw [blank_cps, eq_lit rfl]
theorem ws_lit : (Str.ofString "\t\n\x0b\x0c\r").cps.toList = [9, 10, 11, 12, 13] := by decide +kernel
theorem s_ws (c : Nat) : (occurrences (Str.ofString "\t\n\x0b\x0c\r") (⟨#[c]⟩ : Str) 0 (Str.ofString "\t\n\x0b\x0c\r").length 1).isEmpty = !(9 ≤ c && c ≤ 13) := by
  rw [occ_of _ (rfl : (⟨#[c]⟩ : Str).cps.toList = [c]), ws_lit]
  congr 1
  rw [Bool.eq_iff_iff]
  simp only [List.mem_cons, List.not_mem_nil, or_false, Bool.and_eq_true, decide_eq_true_eq]
  omega
theorem figure_ctr (w : World) (mean : ExcName → Option Value) (mg mb : Str → Option Value) (y : Str) (t : Tok) (c : Nat) (hy : y.cps.toList = [c]) :
    Ctr 5 50 w mean mg mb 74 [.str y t] (fun _ => .bool (isHex c)) := by
  obtain rfl := one_sign hy
  unfold Ctr TheProg
  k_fill
  intro news dp un gd cn cs a ccd cl outer A₀ base h₀ L m s Q E B F X N T hk hd hu hret
  dsimp only [CbRet] at hret
  refine wpAny_call ?_
  k_dflt (refine' code_def ?k1 ?k2 ?k3 ?k4 ?k5 ?kA ?kF ?kK ?k6 ?k7 ?k8 ?k9 ?kB ?_ ?c2 ?c3 ?c4 ?c5; (case kA => exact rfl); (case kF => exact rfl); (case kK => first | assumption | exact rfl); (case k1 => k_asm); (case k2 => k_asm); (case k3 => k_asm); (case k4 => k_asm); (case k5 => k_asm); (case k6 => k_is); (case k7 => k_is); (case k8 => ktr_room); (case k9 => first | exact BindsTo.of_eq rfl | exact binds_K (by k_in) rfl (by k_is) rfl rfl rfl); (case c5 => decide); (case kB => exact locs rfl); (case c2 => exact rfl); (case c3 => exact rfl); (case c4 => exact rfl); k_whole; intro g' L' h' FG' F' N' B' X' T'; (try dsimp only); (try k_lift B'); (try k_fold))
  repeat' ((fail_if_success (with_reducible show wpAny _ _ (PySem.exec (PySem.Stmt.While _ _ _ _) _) _ _ _)); (fail_if_success (with_reducible show wpAny _ _ (PySem.pyIter _) _ _ _)); (fail_if_success (with_reducible show wpAny _ _ (PySem.call (PySem.Value.ref _) _ _) _ _ _)); (fail_if_success (with_reducible show InvEndN _ _ _ _ _ _ _)); (fail_if_success (with_reducible show KswEnd _ _ _ _ _ _ _ _ _ _ _ _)); (first | (k_unfold; (try dsimp only)) | (k_end; wrow_close) | walk1 | (dsimp only; walk1) | (leave1; try dsimp only) | fail "no step"))
  all_goals (try dsimp only)
  all_goals (try k_fold)
  · refine ret_bool hret ?_ (by k_asm) (by k_asm)
    rw [s_hex rfl, Bool.not_not]
  · exfalso
    have e : (({ cps := #[c] } : Str) != Str.ofString "") = false := by with_reducible assumption
    rw [some_sign] at e
    cases e
theorem upper_one (c : Nat) (h : isHex c = true) : (Txt.upper ⟨#[c]⟩).length = 1 := by
  have : ∀ c ∈ [48,49,50,51,52,53,54,55,56,57,97,98,99,100,101,102,65,66,67,68,69,70], (Txt.upper ⟨#[c]⟩).length = 1 := by decide +kernel
  exact this c ((mem_hex c).mpr h)
theorem worth_ctr (w : World) (mean : ExcName → Option Value) (mg mb : Str → Option Value) (y : Str) (t : Tok) (c : Nat) (hy : y.cps.toList = [c]) (hc : isHex c = true) :
    Ctr 5 50 w mean mg mb 81 [.str y t] (fun t => .int (hv c : Nat) t) := by
  obtain rfl := one_sign hy
  have hul := upper_one c hc
  unfold Ctr TheProg
  k_fill
  intro news dp un gd cn cs a ccd cl outer A₀ base h₀ L m s Q E B F X N T hk hd hu hret
  dsimp only [CbRet] at hret
  refine wpAny_call ?_
  k_dflt (refine' code_def ?k1 ?k2 ?k3 ?k4 ?k5 ?kA ?kF ?kK ?k6 ?k7 ?k8 ?k9 ?kB ?_ ?c2 ?c3 ?c4 ?c5; (case kA => exact rfl); (case kF => exact rfl); (case kK => first | assumption | exact rfl); (case k1 => k_asm); (case k2 => k_asm); (case k3 => k_asm); (case k4 => k_asm); (case k5 => k_asm); (case k6 => k_is); (case k7 => k_is); (case k8 => ktr_room); (case k9 => first | exact BindsTo.of_eq rfl | exact binds_K (by k_in) rfl (by k_is) rfl rfl rfl); (case c5 => decide); (case kB => exact locs rfl); (case c2 => exact rfl); (case c3 => exact rfl); (case c4 => exact rfl); k_whole; intro g' L' h' FG' F' N' B' X' T'; (try dsimp only); (try k_lift B'); (try k_fold))
  repeat' ((fail_if_success (with_reducible show wpAny _ _ (PySem.exec (PySem.Stmt.While _ _ _ _) _) _ _ _)); (fail_if_success (with_reducible show wpAny _ _ (PySem.pyIter _) _ _ _)); (fail_if_success (with_reducible show wpAny _ _ (PySem.call (PySem.Value.ref _) _ _) _ _ _)); (fail_if_success (with_reducible show InvEndN _ _ _ _ _ _ _)); (fail_if_success (with_reducible show KswEnd _ _ _ _ _ _ _ _ _ _ _ _)); (first | (k_unfold; (try dsimp only)) | (k_end; wrow_close) | walk1 | (dsimp only; walk1) | (leave1; try dsimp only) | fail "no step"))
  all_goals (try dsimp only)
  all_goals (try k_fold)
  refine SC.upper (by show tooLong (Txt.upper ⟨#[c]⟩).length = false; rw [hul]; decide) ?_
  (try dsimp only)
  repeat' ((fail_if_success (with_reducible show wpAny _ _ (PySem.exec (PySem.Stmt.While _ _ _ _) _) _ _ _)); (fail_if_success (with_reducible show wpAny _ _ (PySem.pyIter _) _ _ _)); (fail_if_success (with_reducible show wpAny _ _ (PySem.call (PySem.Value.ref _) _ _) _ _ _)); (fail_if_success (with_reducible show InvEndN _ _ _ _ _ _ _)); (fail_if_success (with_reducible show KswEnd _ _ _ _ _ _ _ _ _ _ _ _)); (first | (k_unfold; (try dsimp only)) | (k_end; wrow_close) | walk1 | (dsimp only; walk1) | (leave1; try dsimp only) | fail "no step"))
  all_goals (try dsimp only)
  all_goals (try k_fold)
  all_goals refine ret_int hret (worths c ((mem_hex c).mpr hc)) (by k_asm) (by k_asm)
theorem ws_ctr (w : World) (mean : ExcName → Option Value) (mg mb : Str → Option Value) (y : Str) (t : Tok) (c : Nat) (hy : y.cps.toList = [c]) :
    Ctr 5 50 w mean mg mb 88 [.str y t] (fun _ => .bool (wsB c)) := by
  obtain rfl := one_sign hy
  unfold Ctr TheProg
  k_fill
  intro news dp un gd cn cs a ccd cl outer A₀ base h₀ L m s Q E B F X N T hk hd hu hret
  dsimp only [CbRet] at hret
  refine wpAny_call ?_
  k_dflt (refine' code_def ?k1 ?k2 ?k3 ?k4 ?k5 ?kA ?kF ?kK ?k6 ?k7 ?k8 ?k9 ?kB ?_ ?c2 ?c3 ?c4 ?c5; (case kA => exact rfl); (case kF => exact rfl); (case kK => first | assumption | exact rfl); (case k1 => k_asm); (case k2 => k_asm); (case k3 => k_asm); (case k4 => k_asm); (case k5 => k_asm); (case k6 => k_is); (case k7 => k_is); (case k8 => ktr_room); (case k9 => first | exact BindsTo.of_eq rfl | exact binds_K (by k_in) rfl (by k_is) rfl rfl rfl); (case c5 => decide); (case kB => exact locs rfl); (case c2 => exact rfl); (case c3 => exact rfl); (case c4 => exact rfl); k_whole; intro g' L' h' FG' F' N' B' X' T'; (try dsimp only); (try k_lift B'); (try k_fold))
  repeat' ((fail_if_success (with_reducible show wpAny _ _ (PySem.exec (PySem.Stmt.While _ _ _ _) _) _ _ _)); (fail_if_success (with_reducible show wpAny _ _ (PySem.pyIter _) _ _ _)); (fail_if_success (with_reducible show wpAny _ _ (PySem.call (PySem.Value.ref _) _ _) _ _ _)); (fail_if_success (with_reducible show InvEndN _ _ _ _ _ _ _)); (fail_if_success (with_reducible show KswEnd _ _ _ _ _ _ _ _ _ _ _ _)); (first | (k_unfold; (try dsimp only)) | (k_end; wrow_close) | walk1 | (dsimp only; walk1) | (leave1; try dsimp only) | fail "no step"))
  all_goals (try dsimp only)
  all_goals (try k_fold)
  · have e : (({ cps := #[c] } : Str) == Str.ofString " ") = true := by with_reducible assumption
    refine ret_bool hret ?_ (by k_asm) (by k_asm)
    rw [e]
    rw [blank_sign] at e
    unfold wsB
    rw [e]; rfl
  · have e : (({ cps := #[c] } : Str) == Str.ofString " ") = false := by with_reducible assumption
    refine ret_bool hret ?_ (by k_asm) (by k_asm)
    rw [blank_sign] at e
    rw [s_ws, Bool.not_not]
    unfold wsB
    rw [e]; rfl
  · exfalso
    have e : (({ cps := #[c] } : Str) != Str.ofString "") = false := by with_reducible assumption
    rw [some_sign] at e
    cases e
end Mine
end PartB1
section PartB2
open PySem PySem.W PyProof.Rows PySem.Spec PySem.Calls PySem.Builtin.Str
set_option maxRecDepth 100000
set_option maxHeartbeats 8000000
set_option linter.unusedSimpArgs false
namespace Mine
def dueL : List Nat → Int
  | [c] => if isHex c then (hv c : Nat) else -1
  | [a, b] => if isHex a && isHex b then ((16 * hv a + hv b : Nat) : Int) else if isHex b && (wsB a || a == 43) then (hv b : Nat) else if isHex a && wsB b then (hv a : Nat) else if a == 45 && b == 48 then 0 else -1
  | _ => -1
theorem plus_sign {y : Str} {c : Nat} (h : y.cps.toList = [c]) : (y == Str.ofString "+") = (c == 43) := by
  have e : Str.ofString "+" = (⟨#[43]⟩ : Str) := by decide +kernel
  rw [e, eq_lit h]
theorem minus_pair (a b : Nat) : ((⟨#[a, b]⟩ : Str) == Str.ofString "-0") = (a == 45 && b == 48) := by
  have e : Str.ofString "-0" = (⟨#[45, 48]⟩ : Str) := by decide +kernel
  rw [e, Bool.eq_iff_iff]
  simp only [beq_iff_eq, Bool.and_eq_true]
  constructor
  · intro h
    injection h with h
    have := congrArg Array.toList h
    simpa using this
  · rintro ⟨rfl, rfl⟩
    rfl
theorem due_two (w : World) (mean : ExcName → Option Value) (mg mb : Str → Option Value) (t : Tok) (c1 c2 : Nat) :
    Ctr 10 100 w mean mg mb 95 [.str ⟨#[c1, c2]⟩ t] (fun t => .int (dueL [c1, c2]) t) := by
  have hi0 : (Txt.item (⟨#[c1, c2]⟩ : Str) 0).cps.toList = [c1] := item_at (by decide) (by show (0 : Int) < 2; decide)
  have hi1 : (Txt.item (⟨#[c1, c2]⟩ : Str) 1).cps.toList = [c2] := item_at (by decide) (by show (1 : Int) < 2; decide)
  have hlen : (⟨#[c1, c2]⟩ : Str).length = 2 := rfl
  unfold Ctr TheProg
  k_fill
  intro news dp un gd cn cs a ccd cl outer A₀ base h₀ L m s Q E B F X N T hk hd hu hret
  dsimp only [CbRet] at hret
  refine wpAny_call ?_
  k_dflt (refine' code_def ?k1 ?k2 ?k3 ?k4 ?k5 ?kA ?kF ?kK ?k6 ?k7 ?k8 ?k9 ?kB ?_ ?c2 ?c3 ?c4 ?c5; (case kA => exact rfl); (case kF => exact rfl); (case kK => first | assumption | exact rfl); (case k1 => k_asm); (case k2 => k_asm); (case k3 => k_asm); (case k4 => k_asm); (case k5 => k_asm); (case k6 => k_is); (case k7 => k_is); (case k8 => ktr_room); (case k9 => first | exact BindsTo.of_eq rfl | exact binds_K (by k_in) rfl (by k_is) rfl rfl rfl); (case c5 => decide); (case kB => exact locs rfl); (case c2 => exact rfl); (case c3 => exact rfl); (case c4 => exact rfl); k_whole; intro g' L' h' FG' F' N' B' X' T'; (try dsimp only); (try k_lift B'); (try k_fold))
  repeat' (first | ((with_reducible show wpAny _ _ (PySem.call (PySem.Value.ref 74) [PySem.Value.str _ _]) _ _ _); (rename Fr _ _ _ _ => FZ); (rename News _ _ _ _ => NZ); refine' figure_ctr w mean mg mb _ _ _ (by with_reducible assumption) _ _ _ _ _ _ _ _ _ _ _ _ _ _ _ _ _ _ B' FZ X' NZ T' rfl (by ((try simp only [depth_under_make, depth_under_kw, depth_in1, depth_deeper, depth_caller]); (try dsimp only [ktrTop]); omega)) (by ((try simp only [units_in1, units_deeper, Around.mark_units, units_caller]); (try dsimp only [ktrTop]); omega)) ?_; intro _ _ _ _ _; (try dsimp only); (try k_fold)) | ((with_reducible show wpAny _ _ (PySem.call (PySem.Value.ref 81) [PySem.Value.str _ _]) _ _ _); (rename Fr _ _ _ _ => FZ); (rename News _ _ _ _ => NZ); refine' worth_ctr w mean mg mb _ _ _ (by with_reducible assumption) (by with_reducible assumption) _ _ _ _ _ _ _ _ _ _ _ _ _ _ _ _ _ _ B' FZ X' NZ T' rfl (by ((try simp only [depth_under_make, depth_under_kw, depth_in1, depth_deeper, depth_caller]); (try dsimp only [ktrTop]); omega)) (by ((try simp only [units_in1, units_deeper, Around.mark_units, units_caller]); (try dsimp only [ktrTop]); omega)) ?_; intro _ _ _ _ _; (try dsimp only); (try k_fold)) | ((with_reducible show wpAny _ _ (PySem.call (PySem.Value.ref 88) [PySem.Value.str _ _]) _ _ _); (rename Fr _ _ _ _ => FZ); (rename News _ _ _ _ => NZ); refine' ws_ctr w mean mg mb _ _ _ (by with_reducible assumption) _ _ _ _ _ _ _ _ _ _ _ _ _ _ _ _ _ _ B' FZ X' NZ T' rfl (by ((try simp only [depth_under_make, depth_under_kw, depth_in1, depth_deeper, depth_caller]); (try dsimp only [ktrTop]); omega)) (by ((try simp only [units_in1, units_deeper, Around.mark_units, units_caller]); (try dsimp only [ktrTop]); omega)) ?_; intro _ _ _ _ _; (try dsimp only); (try k_fold)) | ((fail_if_success (with_reducible show wpAny _ _ (PySem.exec (PySem.Stmt.While _ _ _ _) _) _ _ _)); (fail_if_success (with_reducible show wpAny _ _ (PySem.pyIter _) _ _ _)); (fail_if_success (with_reducible show wpAny _ _ (PySem.call (PySem.Value.ref _) _ _) _ _ _)); (fail_if_success (with_reducible show InvEndN _ _ _ _ _ _ _)); (fail_if_success (with_reducible show KswEnd _ _ _ _ _ _ _ _ _ _ _ _)); (first | (k_unfold; (try dsimp only)) | (k_end; wrow_close) | walk1 | (dsimp only; walk1) | (leave1; try dsimp only) | fail "no step")))
  all_goals (try dsimp only)
  all_goals (try k_fold)
  all_goals first
    | (exfalso; omega)
    | (refine ret_int hret ?_ (by k_asm) (by k_asm)
       unfold dueL
       (try ((have e : isHex c1 = true := by with_reducible assumption); simp only [e]))
       (try ((have e : isHex c1 = false := by with_reducible assumption); simp only [e]))
       (try ((have e : isHex c2 = true := by with_reducible assumption); simp only [e]))
       (try ((have e : isHex c2 = false := by with_reducible assumption); simp only [e]))
       (try ((have e : wsB c1 = true := by with_reducible assumption); simp only [e]))
       (try ((have e : wsB c1 = false := by with_reducible assumption); simp only [e]))
       (try ((have e : wsB c2 = true := by with_reducible assumption); simp only [e]))
       (try ((have e : wsB c2 = false := by with_reducible assumption); simp only [e]))
       (try ((have e : (Txt.item (⟨#[c1, c2]⟩ : Str) 0 == Str.ofString "+") = true := by with_reducible assumption); rw [plus_sign hi0] at e; simp only [e]))
       (try ((have e : (Txt.item (⟨#[c1, c2]⟩ : Str) 0 == Str.ofString "+") = false := by with_reducible assumption); rw [plus_sign hi0] at e; simp only [e]))
       (try ((have e : ((⟨#[c1, c2]⟩ : Str) == Str.ofString "-0") = true := by with_reducible assumption); rw [minus_pair] at e; simp only [e]))
       (try ((have e : ((⟨#[c1, c2]⟩ : Str) == Str.ofString "-0") = false := by with_reducible assumption); rw [minus_pair] at e; simp only [e]))
       (first | rfl | (simp; done)))
theorem due_one (w : World) (mean : ExcName → Option Value) (mg mb : Str → Option Value) (t : Tok) (c1 : Nat) :
    Ctr 10 100 w mean mg mb 95 [.str ⟨#[c1]⟩ t] (fun t => .int (dueL [c1]) t) := by
  have hi0 : (⟨#[c1]⟩ : Str).cps.toList = [c1] := rfl
  have hlen : (⟨#[c1]⟩ : Str).length = 1 := rfl
  unfold Ctr TheProg
  k_fill
  intro news dp un gd cn cs a ccd cl outer A₀ base h₀ L m s Q E B F X N T hk hd hu hret
  dsimp only [CbRet] at hret
  refine wpAny_call ?_
  k_dflt (refine' code_def ?k1 ?k2 ?k3 ?k4 ?k5 ?kA ?kF ?kK ?k6 ?k7 ?k8 ?k9 ?kB ?_ ?c2 ?c3 ?c4 ?c5; (case kA => exact rfl); (case kF => exact rfl); (case kK => first | assumption | exact rfl); (case k1 => k_asm); (case k2 => k_asm); (case k3 => k_asm); (case k4 => k_asm); (case k5 => k_asm); (case k6 => k_is); (case k7 => k_is); (case k8 => ktr_room); (case k9 => first | exact BindsTo.of_eq rfl | exact binds_K (by k_in) rfl (by k_is) rfl rfl rfl); (case c5 => decide); (case kB => exact locs rfl); (case c2 => exact rfl); (case c3 => exact rfl); (case c4 => exact rfl); k_whole; intro g' L' h' FG' F' N' B' X' T'; (try dsimp only); (try k_lift B'); (try k_fold))
  repeat' (first | ((with_reducible show wpAny _ _ (PySem.call (PySem.Value.ref 74) [PySem.Value.str _ _]) _ _ _); (rename Fr _ _ _ _ => FZ); (rename News _ _ _ _ => NZ); refine' figure_ctr w mean mg mb _ _ _ (by with_reducible assumption) _ _ _ _ _ _ _ _ _ _ _ _ _ _ _ _ _ _ B' FZ X' NZ T' rfl (by ((try simp only [depth_under_make, depth_under_kw, depth_in1, depth_deeper, depth_caller]); (try dsimp only [ktrTop]); omega)) (by ((try simp only [units_in1, units_deeper, Around.mark_units, units_caller]); (try dsimp only [ktrTop]); omega)) ?_; intro _ _ _ _ _; (try dsimp only); (try k_fold)) | ((with_reducible show wpAny _ _ (PySem.call (PySem.Value.ref 81) [PySem.Value.str _ _]) _ _ _); (rename Fr _ _ _ _ => FZ); (rename News _ _ _ _ => NZ); refine' worth_ctr w mean mg mb _ _ _ (by with_reducible assumption) (by with_reducible assumption) _ _ _ _ _ _ _ _ _ _ _ _ _ _ _ _ _ _ B' FZ X' NZ T' rfl (by ((try simp only [depth_under_make, depth_under_kw, depth_in1, depth_deeper, depth_caller]); (try dsimp only [ktrTop]); omega)) (by ((try simp only [units_in1, units_deeper, Around.mark_units, units_caller]); (try dsimp only [ktrTop]); omega)) ?_; intro _ _ _ _ _; (try dsimp only); (try k_fold)) | ((with_reducible show wpAny _ _ (PySem.call (PySem.Value.ref 88) [PySem.Value.str _ _]) _ _ _); (rename Fr _ _ _ _ => FZ); (rename News _ _ _ _ => NZ); refine' ws_ctr w mean mg mb _ _ _ (by with_reducible assumption) _ _ _ _ _ _ _ _ _ _ _ _ _ _ _ _ _ _ B' FZ X' NZ T' rfl (by ((try simp only [depth_under_make, depth_under_kw, depth_in1, depth_deeper, depth_caller]); (try dsimp only [ktrTop]); omega)) (by ((try simp only [units_in1, units_deeper, Around.mark_units, units_caller]); (try dsimp only [ktrTop]); omega)) ?_; intro _ _ _ _ _; (try dsimp only); (try k_fold)) | ((fail_if_success (with_reducible show wpAny _ _ (PySem.exec (PySem.Stmt.While _ _ _ _) _) _ _ _)); (fail_if_success (with_reducible show wpAny _ _ (PySem.pyIter _) _ _ _)); (fail_if_success (with_reducible show wpAny _ _ (PySem.call (PySem.Value.ref _) _ _) _ _ _)); (fail_if_success (with_reducible show InvEndN _ _ _ _ _ _ _)); (fail_if_success (with_reducible show KswEnd _ _ _ _ _ _ _ _ _ _ _ _)); (first | (k_unfold; (try dsimp only)) | (k_end; wrow_close) | walk1 | (dsimp only; walk1) | (leave1; try dsimp only) | fail "no step")))
  all_goals (try dsimp only)
  all_goals (try k_fold)
  all_goals first
    | (exfalso; omega)
    | (refine ret_int hret ?_ (by k_asm) (by k_asm)
       unfold dueL
       (try ((have e : isHex c1 = true := by with_reducible assumption); simp only [e]))
       (try ((have e : isHex c1 = false := by with_reducible assumption); simp only [e]))
       (first | rfl | (simp; done)))
theorem due_nil (w : World) (mean : ExcName → Option Value) (mg mb : Str → Option Value) (t : Tok) :
    Ctr 10 100 w mean mg mb 95 [.str ⟨#[]⟩ t] (fun t => .int (dueL []) t) := by
  have hlen : (⟨#[]⟩ : Str).length = 0 := rfl
  unfold Ctr TheProg
  k_fill
  intro news dp un gd cn cs a ccd cl outer A₀ base h₀ L m s Q E B F X N T hk hd hu hret
  dsimp only [CbRet] at hret
  refine wpAny_call ?_
  k_dflt (refine' code_def ?k1 ?k2 ?k3 ?k4 ?k5 ?kA ?kF ?kK ?k6 ?k7 ?k8 ?k9 ?kB ?_ ?c2 ?c3 ?c4 ?c5; (case kA => exact rfl); (case kF => exact rfl); (case kK => first | assumption | exact rfl); (case k1 => k_asm); (case k2 => k_asm); (case k3 => k_asm); (case k4 => k_asm); (case k5 => k_asm); (case k6 => k_is); (case k7 => k_is); (case k8 => ktr_room); (case k9 => first | exact BindsTo.of_eq rfl | exact binds_K (by k_in) rfl (by k_is) rfl rfl rfl); (case c5 => decide); (case kB => exact locs rfl); (case c2 => exact rfl); (case c3 => exact rfl); (case c4 => exact rfl); k_whole; intro g' L' h' FG' F' N' B' X' T'; (try dsimp only); (try k_lift B'); (try k_fold))
  repeat' (first | ((with_reducible show wpAny _ _ (PySem.call (PySem.Value.ref 74) [PySem.Value.str _ _]) _ _ _); (rename Fr _ _ _ _ => FZ); (rename News _ _ _ _ => NZ); refine' figure_ctr w mean mg mb _ _ _ (by with_reducible assumption) _ _ _ _ _ _ _ _ _ _ _ _ _ _ _ _ _ _ B' FZ X' NZ T' rfl (by ((try simp only [depth_under_make, depth_under_kw, depth_in1, depth_deeper, depth_caller]); (try dsimp only [ktrTop]); omega)) (by ((try simp only [units_in1, units_deeper, Around.mark_units, units_caller]); (try dsimp only [ktrTop]); omega)) ?_; intro _ _ _ _ _; (try dsimp only); (try k_fold)) | ((with_reducible show wpAny _ _ (PySem.call (PySem.Value.ref 81) [PySem.Value.str _ _]) _ _ _); (rename Fr _ _ _ _ => FZ); (rename News _ _ _ _ => NZ); refine' worth_ctr w mean mg mb _ _ _ (by with_reducible assumption) (by with_reducible assumption) _ _ _ _ _ _ _ _ _ _ _ _ _ _ _ _ _ _ B' FZ X' NZ T' rfl (by ((try simp only [depth_under_make, depth_under_kw, depth_in1, depth_deeper, depth_caller]); (try dsimp only [ktrTop]); omega)) (by ((try simp only [units_in1, units_deeper, Around.mark_units, units_caller]); (try dsimp only [ktrTop]); omega)) ?_; intro _ _ _ _ _; (try dsimp only); (try k_fold)) | ((with_reducible show wpAny _ _ (PySem.call (PySem.Value.ref 88) [PySem.Value.str _ _]) _ _ _); (rename Fr _ _ _ _ => FZ); (rename News _ _ _ _ => NZ); refine' ws_ctr w mean mg mb _ _ _ (by with_reducible assumption) _ _ _ _ _ _ _ _ _ _ _ _ _ _ _ _ _ _ B' FZ X' NZ T' rfl (by ((try simp only [depth_under_make, depth_under_kw, depth_in1, depth_deeper, depth_caller]); (try dsimp only [ktrTop]); omega)) (by ((try simp only [units_in1, units_deeper, Around.mark_units, units_caller]); (try dsimp only [ktrTop]); omega)) ?_; intro _ _ _ _ _; (try dsimp only); (try k_fold)) | ((fail_if_success (with_reducible show wpAny _ _ (PySem.exec (PySem.Stmt.While _ _ _ _) _) _ _ _)); (fail_if_success (with_reducible show wpAny _ _ (PySem.pyIter _) _ _ _)); (fail_if_success (with_reducible show wpAny _ _ (PySem.call (PySem.Value.ref _) _ _) _ _ _)); (fail_if_success (with_reducible show InvEndN _ _ _ _ _ _ _)); (fail_if_success (with_reducible show KswEnd _ _ _ _ _ _ _ _ _ _ _ _)); (first | (k_unfold; (try dsimp only)) | (k_end; wrow_close) | walk1 | (dsimp only; walk1) | (leave1; try dsimp only) | fail "no step")))
  all_goals (try dsimp only)
  all_goals (try k_fold)
  all_goals first
    | (exfalso; omega)
    | (refine ret_int hret ?_ (by k_asm) (by k_asm)
       rfl)
theorem due_ctr (w : World) (mean : ExcName → Option Value) (mg mb : Str → Option Value) (x : Str) (t : Tok) (hx : x.length ≤ 2) :
    Ctr 10 100 w mean mg mb 95 [.str x t] (fun t => .int (dueL x.cps.toList) t) := by
  obtain ⟨⟨l⟩⟩ := x
  have hx : l.length ≤ 2 := hx
  match l, hx with
  | [], _ => exact due_nil w mean mg mb t
  | [a], _ => exact due_one w mean mg mb t a
  | [a, b], _ => exact due_two w mean mg mb t a b
  | _ :: _ :: _ :: _, hx => simp at hx
end Mine
end PartB2
section PartC0
open PySem PySem.W PyProof.Rows PySem.Spec PySem.Calls PySem.Builtin.Str
set_option maxRecDepth 100000
set_option maxHeartbeats 8000000
set_option linter.unusedSimpArgs false
namespace Mine
theorem slice_two (x : Str) : (Txt.slice x (some 1) (some 3)).length ≤ 2 := by
  rw [← cps_length, slice_cps, List.length_drop, List.length_take]
  have h1 : clipN (some 3) x.length x.length = min 3 x.length := by unfold clipN; simp only; omega
  have h2 : clipN (some 1) 0 x.length = min 1 x.length := by unfold clipN; simp only; omega
  have := cps_length x
  omega
theorem tok_q {M : Model} {A : Around} {α : Type} {t : Sem α} {Q : α → Shared → Prop} {E : Value → Shared → Prop} {s : Shared} {n : Nat} (hn : n ≤ s.toks) (h : wpAny M A t (fun a s' => n ≤ s'.toks → Q a s') E s) : wpAny M A t Q E s :=
  wpAny_mono (wpAny_toks_of hn h) (fun _ _ x => x.2 x.1) (fun _ _ x => x.2)
theorem own_not : ownsOf hd.view_39 = [] := by with_unfolding_all rfl
theorem imp_yes : importsNone hd.view_39 = true := by with_unfolding_all rfl
theorem ret_b {Q : Value → Shared → Prop} {b : Bool} {s : Shared} (h : Q (.bool true) s) (e : b = true) : Q (.bool b) s := by rw [e]; exact h
def pairOf (x : Str) : Str := Txt.slice x (some 1) (some 3)
def endP (c : Nat) : Bool := c == 10 || c == 11 || c == 12 || c == 13 || c == 28
structure OneOk (x : Str) : Prop where
  len : x.length ≤ 5
  asc : AscTen (Txt.slice x (some 1) (some 3))
  neg : dueL (Txt.slice x (some 1) (some 3)).cps.toList < 0 → int16? (Txt.slice x (some 1) (some 3)) = none ∨ ∃ n, n < 0 ∧ int16? (Txt.slice x (some 1) (some 3)) = some n
  pos : ¬ dueL (Txt.slice x (some 1) (some 3)).cps.toList < 0 → int16? (Txt.slice x (some 1) (some 3)) = some (dueL (Txt.slice x (some 1) (some 3)).cps.toList)
  lt : dueL (Txt.slice x (some 1) (some 3)).cps.toList < 256
  esc : ∀ p q, x.cps.toList = [61, p, q] → isHex p = true → isHex q = true → decS (x ++ Str.ofString ".") = (⟨#[(dueL (Txt.slice x (some 1) (some 3)).cps.toList).toNat]⟩ : Str) ++ Str.ofString "." ∧ hdrS (x ++ Str.ofString ".") = (⟨#[(dueL (Txt.slice x (some 1) (some 3)).cps.toList).toNat]⟩ : Str) ++ Str.ofString "."
  noesc : ∀ p q, x.cps.toList = [61, p, q] → (isHex p = false ∨ isHex q = false) → hdrS (x ++ Str.ofString ".") = Txt.replace x (Str.ofString "_") (Str.ofString " ") ++ Str.ofString "." ∧ (endP p = true ∨ endP q = true ∨ decS (x ++ Str.ofString ".") = x ++ Str.ofString ".")
theorem fig_if {y : Str} {c : Nat} {b v : Bool} (hy : y.cps.toList = [c]) (e : (if 1 ≤ y.length ∧ y.length ≤ 1 then v else false) = b) : v = b := by
  have h : y.length = 1 := by rw [← cps_length, hy]; rfl
  rwa [if_pos ⟨by omega, by omega⟩] at e
theorem first_eq {x : Str} {c0 p q : Nat} (hc : x.cps.toList = [c0, p, q]) (e : (Txt.slice x none (some 1) != Str.ofString "=") = false) : c0 = 61 := by
  have hl : x.length = 3 := by rw [← cps_length, hc]; rfl
  have hz : (Txt.slice x none (some 1)).cps.toList = [c0] := by rw [slice_cps, hc, hl]; rfl
  rw [eq_sign_lit, ne_sign hz] at e
  simpa using e
theorem bne_yes {a b : Str} (h : b = a) (e : (b != a) = true) : False := by
  rw [h] at e
  simp at e
theorem hex_neg {x : Str} {p q : Nat} (hs : (Txt.slice x (some 1) (some 3)).cps.toList = [p, q]) (hn : dueL (Txt.slice x (some 1) (some 3)).cps.toList < 0) (e1 : isHex p = true) (e2 : isHex q = true) : False := by
  rw [hs] at hn
  have : dueL [p, q] = ((16 * hv p + hv q : Nat) : Int) := by simp [dueL, e1, e2]
  omega
theorem endP_lit : (Str.ofString "\n\x0b\x0c\r\x1c").cps.toList = [10, 11, 12, 13, 28] := by decide +kernel
theorem end_occ {y : Str} {c : Nat} (h : y.cps.toList = [c]) (e : (occurrences (Str.ofString "\n\x0b\x0c\r\x1c") y 0 (Str.ofString "\n\x0b\x0c\r\x1c").length 1).isEmpty = true) : endP c = false := by
  rw [occ_of _ h, endP_lit] at e
  simp only [Bool.not_eq_true', decide_eq_false_iff_not, List.mem_cons, List.not_mem_nil, or_false] at e
  unfold endP
  rw [← Bool.not_eq_true]
  simp only [Bool.or_eq_true, beq_iff_eq]
  omega
theorem last_eq {p q : Nat} {a b : Str} (h : endP p = true ∨ endP q = true ∨ a = b) (hp : endP p = false) (hq : endP q = false) : (a == b) = true := by
  rcases h with h | h | h
  · rw [hp] at h; cases h
  · rw [hq] at h; cases h
  · rw [h]; exact beq_self_eq_true b
end Mine
end PartC0
section PartC2
open PySem PySem.W PyProof.Rows PySem.Spec PySem.Calls PySem.Builtin.Str
set_option maxRecDepth 100000
set_option maxHeartbeats 8000000
set_option linter.unusedSimpArgs false
namespace Mine
theorem one_ctrP (w : World) (mean : ExcName → Option Value) (mg mb : Str → Option Value) (x : Str) (t : Tok) (ok : OneOk x) :
  ∀ (news : List (Addr × Obj)) (cn : Str) (cs : Scope) (a : Addr) (ccd : Value) (h₀ : Heap) (L : Addr) (m : Str → Option Value) (s : Shared) (Q E : Value → Shared → Prop),
    Fr h₀ L s.heap m → (K9 w.params).In h₀ → News h₀ L s.heap news → Top hd.view_39 TheLoose mean mg mb h₀ → cs.kind = .function →
    (∀ (t : Tok) (h' : Heap) (tk' : Nat), Fr h₀ L h' m → News h₀ L h' news → Q (.bool true) { s with heap := h', toks := tk' }) →
      wpP (model TheProg w) (callerA.deeper (envOf cn cs L a ccd)) (call (.ref 102) [.str x t]) Q E s := by
  w_top off
  unfold TheProg
  k_fill
  intro news cn cs a ccd h₀ L m s Q E F X N T hk hret
  have hrl : recursionLimit = 1000 := rfl
  have hcl : cLine = 9900 := rfl
  have hxs := slice_two x
  have hx := ok.len
  have hlt := ok.lt
  have hdot : (x ++ Str.ofString ".").length = x.length + 1 := by rw [← cps_length, ← cps_length, cat_cps, List.length_append]; rfl
  have hrep := replace_len x
  by_cases h3 : x.length = 3
  · have hl3 : x.cps.toList.length = 3 := by rw [cps_length]; exact h3
    obtain ⟨c0, p, q, hc⟩ : ∃ c0 p q, x.cps.toList = [c0, p, q] := by
      match hm : x.cps.toList, hl3 with
      | [c0, p, q], _ => exact ⟨c0, p, q, rfl⟩
    have hsc : (Txt.slice x (some 1) (some 3)).cps.toList = [p, q] := by
      rw [slice_cps, hc, h3]
      rfl
    have hsl : (Txt.slice x (some 1) (some 3)).length = 2 := by rw [← cps_length, hsc]; rfl
    have hi0 : (Txt.item (Txt.slice x (some 1) (some 3)) 0).cps.toList = [p] := by
      have := item_at (x := Txt.slice x (some 1) (some 3)) (k := 0) (by decide) (by omega)
      rw [this, hsc]
      rfl
    have hi1 : (Txt.item (Txt.slice x (some 1) (some 3)) 1).cps.toList = [q] := by
      have := item_at (x := Txt.slice x (some 1) (some 3)) (k := 1) (by decide) (by omega)
      rw [this, hsc]
      rfl
    by_cases hneg : dueL (Txt.slice x (some 1) (some 3)).cps.toList < 0
    · rcases ok.neg hneg with hn | ⟨n9, hn9, hn⟩
      · refine wpP_call ?_
        k_dflt (refine' codeP_defS ?k1 ?k2 ?k3 ?k4 ?k6 ?k7 ?k8 ?k9 ?kB ?_ ?kK ?c2 ?c3 ?c4 ?c5; (case kK => assumption); (case k1 => k_asm); (case k2 => k_asm); (case k3 => k_asm); (case k4 => k_asm); (case k6 => k_is); (case k7 => k_is); (case k8 => first | ktr_room | decide +kernel); (case k9 => first | exact BindsTo.of_eq rfl | exact binds_K (by k_in) rfl (by k_is) rfl rfl rfl); (case kB => exact locs rfl); (case c2 => exact rfl); (case c3 => exact rfl); (case c4 => exact rfl); (case c5 => decide); k_whole; intro g1 L1 h1 FG1 F1 N1 B1 X1 T1 D1 nL1; (try dsimp only); (try k_lift B1); (try k_fold))
        refine p_execs_later ?_
        repeat' ((fail_if_success (with_reducible show LeaveS0 _ _ _ _ _ _ _ _)); first | ((with_reducible show wpAny _ _ (PySem.execs (_ :: _) _) _ _ _); refine wpAny_execs_cons (tok_q (n := 1) (by (try dsimp only); (first | omega | (simp; done) | (simp; omega))) ?_); (try dsimp only)) | ((with_reducible show wpAny _ _ (PySem.eval (PySem.Expr.Call (PySem.Expr.Name (PySem.Str.ofString "header_decode") _) _ _ _) _) _ _ _); refine tok_q (n := 1) (by (try dsimp only); omega) ?_; walk1; (all_goals (try (conv => arg 6; dsimp only)))) | ((with_reducible show wpAny _ _ (PySem.call (PySem.Value.builtin "str.replace") _) _ _ _); refine SC.replaceW (by (show @Ne Nat _ _); omega) (by (show @Ne Nat _ _); omega) (by (show @Ne Nat _ _); omega) (by decide +kernel) (by omega) (by decide +kernel) ?_; intro _ _; (try dsimp only); (try k_fold)) | ((with_reducible show (1 ≤ _) → _); intro htk; (try dsimp only at htk); (try dsimp only)) | ((with_reducible show wpAny _ _ (PySem.call (PySem.Value.ref 95) [PySem.Value.str _ _]) _ _ _); (rename Fr _ _ _ _ => FZ); (rename News _ _ _ _ => NZ); (rename Below _ _ _ _ => BZ); (rename Frag.In _ _ => XZ); (rename Top _ _ _ _ _ _ => TZ); refine' due_ctr w mean mg mb _ _ (slice_two _) _ _ _ _ _ _ _ _ _ _ _ _ _ _ _ _ _ _ BZ FZ XZ NZ TZ rfl (by ((try simp only [depth_under_make, depth_under_kw, depth_in1, depth_deeper, depth_caller]); (try dsimp only [ktrTop]); omega)) (by ((try simp only [units_in1, units_deeper, Around.mark_units, units_caller]); (try dsimp only [ktrTop]); omega)) ?_; intro _ _ _ _ _; (try dsimp only); (try k_fold)) | ((with_reducible show wpAny _ _ (PySem.call (PySem.Value.ref 74) [PySem.Value.str _ _]) _ _ _); (rename Fr _ _ _ _ => FZ); (rename News _ _ _ _ => NZ); (rename Below _ _ _ _ => BZ); (rename Frag.In _ _ => XZ); (rename Top _ _ _ _ _ _ => TZ); refine' figure_ctr w mean mg mb _ _ _ (by with_reducible assumption) _ _ _ _ _ _ _ _ _ _ _ _ _ _ _ _ _ _ BZ FZ XZ NZ TZ rfl (by ((try simp only [depth_under_make, depth_under_kw, depth_in1, depth_deeper, depth_caller]); (try dsimp only [ktrTop]); omega)) (by ((try simp only [units_in1, units_deeper, Around.mark_units, units_caller]); (try dsimp only [ktrTop]); omega)) ?_; intro _ _ _ _ _; (try dsimp only); (try k_fold)) | ((with_reducible show wpAny _ _ (PySem.call (PySem.Value.ref 51) [PySem.Value.str _ _]) _ _ _); (rename Fr _ _ _ _ => FZ); (rename News _ _ _ _ => NZ); (rename Below _ _ _ _ => BZ); (rename Frag.In _ _ => XZ); (rename Top _ _ _ _ _ _ => TZ); refine' decode_ctr w mean mg mb _ _ (by omega) _ _ _ _ _ _ _ _ _ _ _ _ _ _ _ _ _ _ BZ FZ XZ NZ TZ rfl (by ((try simp only [depth_under_make, depth_under_kw, depth_in1, depth_deeper, depth_caller]); (try dsimp only [ktrTop]); omega)) (by ((try simp only [units_in1, units_deeper, Around.mark_units, units_caller]); (try dsimp only [ktrTop]); omega)) ?_; intro _ _ _ _ _; (try dsimp only); (try k_fold)) | ((with_reducible show wpAny _ _ (PySem.call (PySem.Value.ref 65) [PySem.Value.str _ _]) _ _ _); (rename Fr _ _ _ _ => FZ); (rename News _ _ _ _ => NZ); (rename Below _ _ _ _ => BZ); (rename Frag.In _ _ => XZ); (rename Top _ _ _ _ _ _ => TZ); refine' header_ctr w mean mg mb _ _ (by omega) _ _ _ _ _ _ _ _ _ _ _ _ _ _ _ _ _ _ BZ FZ XZ NZ TZ rfl (by ((try simp only [depth_under_make, depth_under_kw, depth_in1, depth_deeper, depth_caller]); (try dsimp only [ktrTop]); omega)) (by ((try simp only [units_in1, units_deeper, Around.mark_units, units_caller]); (try dsimp only [ktrTop]); omega)) ?_; intro _ _ _ _ _; (try dsimp only); (try k_fold)) | ((fail_if_success (with_reducible show wpAny _ _ (PySem.exec (PySem.Stmt.While _ _ _ _) _) _ _ _)); (fail_if_success (with_reducible show wpAny _ _ (PySem.pyIter _) _ _ _)); (fail_if_success (with_reducible show wpAny _ _ (PySem.call (PySem.Value.ref _) _ _) _ _ _)); (fail_if_success (with_reducible show InvEndN _ _ _ _ _ _ _)); (fail_if_success (with_reducible show KswEnd _ _ _ _ _ _ _ _ _ _ _ _)); (first | (k_unfold; (try dsimp only)) | (k_end; wrow_close) | (walk1; (all_goals (try (conv => arg 6; dsimp only)))) | (dsimp only; walk1) | (leave1; try dsimp only) | fail "no step")))
        refine p_execs (p_Try (p_execs (p_Assign_Name (p_Call_Name ?_))))
        repeat' ((fail_if_success (with_reducible show LeaveS0 _ _ _ _ _ _ _ _)); first | ((with_reducible show wpAny _ _ (PySem.execs (_ :: _) _) _ _ _); refine wpAny_execs_cons (tok_q (n := 1) (by (try dsimp only); (first | omega | (simp; done) | (simp; omega))) ?_); (try dsimp only)) | ((with_reducible show wpAny _ _ (PySem.eval (PySem.Expr.Call (PySem.Expr.Name (PySem.Str.ofString "header_decode") _) _ _ _) _) _ _ _); refine tok_q (n := 1) (by (try dsimp only); omega) ?_; walk1; (all_goals (try (conv => arg 6; dsimp only)))) | ((with_reducible show wpAny _ _ (PySem.call (PySem.Value.builtin "str.replace") _) _ _ _); refine SC.replaceW (by (show @Ne Nat _ _); omega) (by (show @Ne Nat _ _); omega) (by (show @Ne Nat _ _); omega) (by decide +kernel) (by omega) (by decide +kernel) ?_; intro _ _; (try dsimp only); (try k_fold)) | ((with_reducible show (1 ≤ _) → _); intro htk; (try dsimp only at htk); (try dsimp only)) | ((with_reducible show wpAny _ _ (PySem.call (PySem.Value.ref 95) [PySem.Value.str _ _]) _ _ _); (rename Fr _ _ _ _ => FZ); (rename News _ _ _ _ => NZ); (rename Below _ _ _ _ => BZ); (rename Frag.In _ _ => XZ); (rename Top _ _ _ _ _ _ => TZ); refine' due_ctr w mean mg mb _ _ (slice_two _) _ _ _ _ _ _ _ _ _ _ _ _ _ _ _ _ _ _ BZ FZ XZ NZ TZ rfl (by ((try simp only [depth_under_make, depth_under_kw, depth_in1, depth_deeper, depth_caller]); (try dsimp only [ktrTop]); omega)) (by ((try simp only [units_in1, units_deeper, Around.mark_units, units_caller]); (try dsimp only [ktrTop]); omega)) ?_; intro _ _ _ _ _; (try dsimp only); (try k_fold)) | ((with_reducible show wpAny _ _ (PySem.call (PySem.Value.ref 74) [PySem.Value.str _ _]) _ _ _); (rename Fr _ _ _ _ => FZ); (rename News _ _ _ _ => NZ); (rename Below _ _ _ _ => BZ); (rename Frag.In _ _ => XZ); (rename Top _ _ _ _ _ _ => TZ); refine' figure_ctr w mean mg mb _ _ _ (by with_reducible assumption) _ _ _ _ _ _ _ _ _ _ _ _ _ _ _ _ _ _ BZ FZ XZ NZ TZ rfl (by ((try simp only [depth_under_make, depth_under_kw, depth_in1, depth_deeper, depth_caller]); (try dsimp only [ktrTop]); omega)) (by ((try simp only [units_in1, units_deeper, Around.mark_units, units_caller]); (try dsimp only [ktrTop]); omega)) ?_; intro _ _ _ _ _; (try dsimp only); (try k_fold)) | ((with_reducible show wpAny _ _ (PySem.call (PySem.Value.ref 51) [PySem.Value.str _ _]) _ _ _); (rename Fr _ _ _ _ => FZ); (rename News _ _ _ _ => NZ); (rename Below _ _ _ _ => BZ); (rename Frag.In _ _ => XZ); (rename Top _ _ _ _ _ _ => TZ); refine' decode_ctr w mean mg mb _ _ (by omega) _ _ _ _ _ _ _ _ _ _ _ _ _ _ _ _ _ _ BZ FZ XZ NZ TZ rfl (by ((try simp only [depth_under_make, depth_under_kw, depth_in1, depth_deeper, depth_caller]); (try dsimp only [ktrTop]); omega)) (by ((try simp only [units_in1, units_deeper, Around.mark_units, units_caller]); (try dsimp only [ktrTop]); omega)) ?_; intro _ _ _ _ _; (try dsimp only); (try k_fold)) | ((with_reducible show wpAny _ _ (PySem.call (PySem.Value.ref 65) [PySem.Value.str _ _]) _ _ _); (rename Fr _ _ _ _ => FZ); (rename News _ _ _ _ => NZ); (rename Below _ _ _ _ => BZ); (rename Frag.In _ _ => XZ); (rename Top _ _ _ _ _ _ => TZ); refine' header_ctr w mean mg mb _ _ (by omega) _ _ _ _ _ _ _ _ _ _ _ _ _ _ _ _ _ _ BZ FZ XZ NZ TZ rfl (by ((try simp only [depth_under_make, depth_under_kw, depth_in1, depth_deeper, depth_caller]); (try dsimp only [ktrTop]); omega)) (by ((try simp only [units_in1, units_deeper, Around.mark_units, units_caller]); (try dsimp only [ktrTop]); omega)) ?_; intro _ _ _ _ _; (try dsimp only); (try k_fold)) | ((fail_if_success (with_reducible show wpAny _ _ (PySem.exec (PySem.Stmt.While _ _ _ _) _) _ _ _)); (fail_if_success (with_reducible show wpAny _ _ (PySem.pyIter _) _ _ _)); (fail_if_success (with_reducible show wpAny _ _ (PySem.call (PySem.Value.ref _) _ _) _ _ _)); (fail_if_success (with_reducible show InvEndN _ _ _ _ _ _ _)); (fail_if_success (with_reducible show KswEnd _ _ _ _ _ _ _ _ _ _ _ _)); (first | (k_unfold; (try dsimp only)) | (k_end; wrow_close) | (walk1; (all_goals (try (conv => arg 6; dsimp only)))) | (dsimp only; walk1) | (leave1; try dsimp only) | fail "no step")))
        refine p_cw_def (K := K9 w.params) (by k_is) (p_sp_one (wpP_of ?_))
        repeat' ((fail_if_success (with_reducible show LeaveS0 _ _ _ _ _ _ _ _)); first | ((with_reducible show wpAny _ _ (PySem.execs (_ :: _) _) _ _ _); refine wpAny_execs_cons (tok_q (n := 1) (by (try dsimp only); (first | omega | (simp; done) | (simp; omega))) ?_); (try dsimp only)) | ((with_reducible show wpAny _ _ (PySem.eval (PySem.Expr.Call (PySem.Expr.Name (PySem.Str.ofString "header_decode") _) _ _ _) _) _ _ _); refine tok_q (n := 1) (by (try dsimp only); omega) ?_; walk1; (all_goals (try (conv => arg 6; dsimp only)))) | ((with_reducible show wpAny _ _ (PySem.call (PySem.Value.builtin "str.replace") _) _ _ _); refine SC.replaceW (by (show @Ne Nat _ _); omega) (by (show @Ne Nat _ _); omega) (by (show @Ne Nat _ _); omega) (by decide +kernel) (by omega) (by decide +kernel) ?_; intro _ _; (try dsimp only); (try k_fold)) | ((with_reducible show (1 ≤ _) → _); intro htk; (try dsimp only at htk); (try dsimp only)) | ((with_reducible show wpAny _ _ (PySem.call (PySem.Value.ref 95) [PySem.Value.str _ _]) _ _ _); (rename Fr _ _ _ _ => FZ); (rename News _ _ _ _ => NZ); (rename Below _ _ _ _ => BZ); (rename Frag.In _ _ => XZ); (rename Top _ _ _ _ _ _ => TZ); refine' due_ctr w mean mg mb _ _ (slice_two _) _ _ _ _ _ _ _ _ _ _ _ _ _ _ _ _ _ _ BZ FZ XZ NZ TZ rfl (by ((try simp only [depth_under_make, depth_under_kw, depth_in1, depth_deeper, depth_caller]); (try dsimp only [ktrTop]); omega)) (by ((try simp only [units_in1, units_deeper, Around.mark_units, units_caller]); (try dsimp only [ktrTop]); omega)) ?_; intro _ _ _ _ _; (try dsimp only); (try k_fold)) | ((with_reducible show wpAny _ _ (PySem.call (PySem.Value.ref 74) [PySem.Value.str _ _]) _ _ _); (rename Fr _ _ _ _ => FZ); (rename News _ _ _ _ => NZ); (rename Below _ _ _ _ => BZ); (rename Frag.In _ _ => XZ); (rename Top _ _ _ _ _ _ => TZ); refine' figure_ctr w mean mg mb _ _ _ (by with_reducible assumption) _ _ _ _ _ _ _ _ _ _ _ _ _ _ _ _ _ _ BZ FZ XZ NZ TZ rfl (by ((try simp only [depth_under_make, depth_under_kw, depth_in1, depth_deeper, depth_caller]); (try dsimp only [ktrTop]); omega)) (by ((try simp only [units_in1, units_deeper, Around.mark_units, units_caller]); (try dsimp only [ktrTop]); omega)) ?_; intro _ _ _ _ _; (try dsimp only); (try k_fold)) | ((with_reducible show wpAny _ _ (PySem.call (PySem.Value.ref 51) [PySem.Value.str _ _]) _ _ _); (rename Fr _ _ _ _ => FZ); (rename News _ _ _ _ => NZ); (rename Below _ _ _ _ => BZ); (rename Frag.In _ _ => XZ); (rename Top _ _ _ _ _ _ => TZ); refine' decode_ctr w mean mg mb _ _ (by omega) _ _ _ _ _ _ _ _ _ _ _ _ _ _ _ _ _ _ BZ FZ XZ NZ TZ rfl (by ((try simp only [depth_under_make, depth_under_kw, depth_in1, depth_deeper, depth_caller]); (try dsimp only [ktrTop]); omega)) (by ((try simp only [units_in1, units_deeper, Around.mark_units, units_caller]); (try dsimp only [ktrTop]); omega)) ?_; intro _ _ _ _ _; (try dsimp only); (try k_fold)) | ((with_reducible show wpAny _ _ (PySem.call (PySem.Value.ref 65) [PySem.Value.str _ _]) _ _ _); (rename Fr _ _ _ _ => FZ); (rename News _ _ _ _ => NZ); (rename Below _ _ _ _ => BZ); (rename Frag.In _ _ => XZ); (rename Top _ _ _ _ _ _ => TZ); refine' header_ctr w mean mg mb _ _ (by omega) _ _ _ _ _ _ _ _ _ _ _ _ _ _ _ _ _ _ BZ FZ XZ NZ TZ rfl (by ((try simp only [depth_under_make, depth_under_kw, depth_in1, depth_deeper, depth_caller]); (try dsimp only [ktrTop]); omega)) (by ((try simp only [units_in1, units_deeper, Around.mark_units, units_caller]); (try dsimp only [ktrTop]); omega)) ?_; intro _ _ _ _ _; (try dsimp only); (try k_fold)) | ((fail_if_success (with_reducible show wpAny _ _ (PySem.exec (PySem.Stmt.While _ _ _ _) _) _ _ _)); (fail_if_success (with_reducible show wpAny _ _ (PySem.pyIter _) _ _ _)); (fail_if_success (with_reducible show wpAny _ _ (PySem.call (PySem.Value.ref _) _ _) _ _ _)); (fail_if_success (with_reducible show InvEndN _ _ _ _ _ _ _)); (fail_if_success (with_reducible show KswEnd _ _ _ _ _ _ _ _ _ _ _ _)); (first | (k_unfold; (try dsimp only)) | (k_end; wrow_close) | (walk1; (all_goals (try (conv => arg 6; dsimp only)))) | (dsimp only; walk1) | (leave1; try dsimp only) | fail "no step")))
        refine wpP_call ?_
        k_dflt (refine' codeP_def_raises ?k1 ?k2 ?k3 ?k4 ?k5 ?kA ?k6 ?k7 ?k8 ?k9 ?kB ?_ ?kK ?c2 ?c3 ?c4 ?c5; (case kA => exact rfl); (case kK => exact rfl); (case k1 => k_asm); (case k2 => k_asm); (case k3 => k_asm); (case k4 => k_asm); (case k5 => k_asm); (case k6 => k_is); (case k7 => k_is); (case k8 => ktr_room); (case k9 => first | exact BindsTo.of_eq rfl | exact binds_K (by k_in) rfl (by k_is) rfl rfl rfl); (case kB => exact locs rfl); (case c2 => exact rfl); (case c3 => exact rfl); (case c4 => exact rfl); (case c5 => decide); k_whole; intro g2 L2 h2 FG2 F2 N2 B2 X2 T2; (try dsimp only); (try k_lift B2); (try k_fold))
        refine p_execs (p_Return (p_Call_Name ?_))
        repeat' ((fail_if_success (with_reducible show LeaveS0 _ _ _ _ _ _ _ _)); first | ((with_reducible show wpAny _ _ (PySem.execs (_ :: _) _) _ _ _); refine wpAny_execs_cons (tok_q (n := 1) (by (try dsimp only); (first | omega | (simp; done) | (simp; omega))) ?_); (try dsimp only)) | ((with_reducible show wpAny _ _ (PySem.eval (PySem.Expr.Call (PySem.Expr.Name (PySem.Str.ofString "header_decode") _) _ _ _) _) _ _ _); refine tok_q (n := 1) (by (try dsimp only); omega) ?_; walk1; (all_goals (try (conv => arg 6; dsimp only)))) | ((with_reducible show wpAny _ _ (PySem.call (PySem.Value.builtin "str.replace") _) _ _ _); refine SC.replaceW (by (show @Ne Nat _ _); omega) (by (show @Ne Nat _ _); omega) (by (show @Ne Nat _ _); omega) (by decide +kernel) (by omega) (by decide +kernel) ?_; intro _ _; (try dsimp only); (try k_fold)) | ((with_reducible show (1 ≤ _) → _); intro htk; (try dsimp only at htk); (try dsimp only)) | ((with_reducible show wpAny _ _ (PySem.call (PySem.Value.ref 95) [PySem.Value.str _ _]) _ _ _); (rename Fr _ _ _ _ => FZ); (rename News _ _ _ _ => NZ); (rename Below _ _ _ _ => BZ); (rename Frag.In _ _ => XZ); (rename Top _ _ _ _ _ _ => TZ); refine' due_ctr w mean mg mb _ _ (slice_two _) _ _ _ _ _ _ _ _ _ _ _ _ _ _ _ _ _ _ BZ FZ XZ NZ TZ rfl (by ((try simp only [depth_under_make, depth_under_kw, depth_in1, depth_deeper, depth_caller]); (try dsimp only [ktrTop]); omega)) (by ((try simp only [units_in1, units_deeper, Around.mark_units, units_caller]); (try dsimp only [ktrTop]); omega)) ?_; intro _ _ _ _ _; (try dsimp only); (try k_fold)) | ((with_reducible show wpAny _ _ (PySem.call (PySem.Value.ref 74) [PySem.Value.str _ _]) _ _ _); (rename Fr _ _ _ _ => FZ); (rename News _ _ _ _ => NZ); (rename Below _ _ _ _ => BZ); (rename Frag.In _ _ => XZ); (rename Top _ _ _ _ _ _ => TZ); refine' figure_ctr w mean mg mb _ _ _ (by with_reducible assumption) _ _ _ _ _ _ _ _ _ _ _ _ _ _ _ _ _ _ BZ FZ XZ NZ TZ rfl (by ((try simp only [depth_under_make, depth_under_kw, depth_in1, depth_deeper, depth_caller]); (try dsimp only [ktrTop]); omega)) (by ((try simp only [units_in1, units_deeper, Around.mark_units, units_caller]); (try dsimp only [ktrTop]); omega)) ?_; intro _ _ _ _ _; (try dsimp only); (try k_fold)) | ((with_reducible show wpAny _ _ (PySem.call (PySem.Value.ref 51) [PySem.Value.str _ _]) _ _ _); (rename Fr _ _ _ _ => FZ); (rename News _ _ _ _ => NZ); (rename Below _ _ _ _ => BZ); (rename Frag.In _ _ => XZ); (rename Top _ _ _ _ _ _ => TZ); refine' decode_ctr w mean mg mb _ _ (by omega) _ _ _ _ _ _ _ _ _ _ _ _ _ _ _ _ _ _ BZ FZ XZ NZ TZ rfl (by ((try simp only [depth_under_make, depth_under_kw, depth_in1, depth_deeper, depth_caller]); (try dsimp only [ktrTop]); omega)) (by ((try simp only [units_in1, units_deeper, Around.mark_units, units_caller]); (try dsimp only [ktrTop]); omega)) ?_; intro _ _ _ _ _; (try dsimp only); (try k_fold)) | ((with_reducible show wpAny _ _ (PySem.call (PySem.Value.ref 65) [PySem.Value.str _ _]) _ _ _); (rename Fr _ _ _ _ => FZ); (rename News _ _ _ _ => NZ); (rename Below _ _ _ _ => BZ); (rename Frag.In _ _ => XZ); (rename Top _ _ _ _ _ _ => TZ); refine' header_ctr w mean mg mb _ _ (by omega) _ _ _ _ _ _ _ _ _ _ _ _ _ _ _ _ _ _ BZ FZ XZ NZ TZ rfl (by ((try simp only [depth_under_make, depth_under_kw, depth_in1, depth_deeper, depth_caller]); (try dsimp only [ktrTop]); omega)) (by ((try simp only [units_in1, units_deeper, Around.mark_units, units_caller]); (try dsimp only [ktrTop]); omega)) ?_; intro _ _ _ _ _; (try dsimp only); (try k_fold)) | ((fail_if_success (with_reducible show wpAny _ _ (PySem.exec (PySem.Stmt.While _ _ _ _) _) _ _ _)); (fail_if_success (with_reducible show wpAny _ _ (PySem.pyIter _) _ _ _)); (fail_if_success (with_reducible show wpAny _ _ (PySem.call (PySem.Value.ref _) _ _) _ _ _)); (fail_if_success (with_reducible show InvEndN _ _ _ _ _ _ _)); (fail_if_success (with_reducible show KswEnd _ _ _ _ _ _ _ _ _ _ _ _)); (first | (k_unfold; (try dsimp only)) | (k_end; wrow_close) | (walk1; (all_goals (try (conv => arg 6; dsimp only)))) | (dsimp only; walk1) | (leave1; try dsimp only) | fail "no step")))
        refine p_cw_builtin (p_sp_one (p_Call_Name ?_))
        repeat' ((fail_if_success (with_reducible show LeaveS0 _ _ _ _ _ _ _ _)); first | ((with_reducible show wpAny _ _ (PySem.execs (_ :: _) _) _ _ _); refine wpAny_execs_cons (tok_q (n := 1) (by (try dsimp only); (first | omega | (simp; done) | (simp; omega))) ?_); (try dsimp only)) | ((with_reducible show wpAny _ _ (PySem.eval (PySem.Expr.Call (PySem.Expr.Name (PySem.Str.ofString "header_decode") _) _ _ _) _) _ _ _); refine tok_q (n := 1) (by (try dsimp only); omega) ?_; walk1; (all_goals (try (conv => arg 6; dsimp only)))) | ((with_reducible show wpAny _ _ (PySem.call (PySem.Value.builtin "str.replace") _) _ _ _); refine SC.replaceW (by (show @Ne Nat _ _); omega) (by (show @Ne Nat _ _); omega) (by (show @Ne Nat _ _); omega) (by decide +kernel) (by omega) (by decide +kernel) ?_; intro _ _; (try dsimp only); (try k_fold)) | ((with_reducible show (1 ≤ _) → _); intro htk; (try dsimp only at htk); (try dsimp only)) | ((with_reducible show wpAny _ _ (PySem.call (PySem.Value.ref 95) [PySem.Value.str _ _]) _ _ _); (rename Fr _ _ _ _ => FZ); (rename News _ _ _ _ => NZ); (rename Below _ _ _ _ => BZ); (rename Frag.In _ _ => XZ); (rename Top _ _ _ _ _ _ => TZ); refine' due_ctr w mean mg mb _ _ (slice_two _) _ _ _ _ _ _ _ _ _ _ _ _ _ _ _ _ _ _ BZ FZ XZ NZ TZ rfl (by ((try simp only [depth_under_make, depth_under_kw, depth_in1, depth_deeper, depth_caller]); (try dsimp only [ktrTop]); omega)) (by ((try simp only [units_in1, units_deeper, Around.mark_units, units_caller]); (try dsimp only [ktrTop]); omega)) ?_; intro _ _ _ _ _; (try dsimp only); (try k_fold)) | ((with_reducible show wpAny _ _ (PySem.call (PySem.Value.ref 74) [PySem.Value.str _ _]) _ _ _); (rename Fr _ _ _ _ => FZ); (rename News _ _ _ _ => NZ); (rename Below _ _ _ _ => BZ); (rename Frag.In _ _ => XZ); (rename Top _ _ _ _ _ _ => TZ); refine' figure_ctr w mean mg mb _ _ _ (by with_reducible assumption) _ _ _ _ _ _ _ _ _ _ _ _ _ _ _ _ _ _ BZ FZ XZ NZ TZ rfl (by ((try simp only [depth_under_make, depth_under_kw, depth_in1, depth_deeper, depth_caller]); (try dsimp only [ktrTop]); omega)) (by ((try simp only [units_in1, units_deeper, Around.mark_units, units_caller]); (try dsimp only [ktrTop]); omega)) ?_; intro _ _ _ _ _; (try dsimp only); (try k_fold)) | ((with_reducible show wpAny _ _ (PySem.call (PySem.Value.ref 51) [PySem.Value.str _ _]) _ _ _); (rename Fr _ _ _ _ => FZ); (rename News _ _ _ _ => NZ); (rename Below _ _ _ _ => BZ); (rename Frag.In _ _ => XZ); (rename Top _ _ _ _ _ _ => TZ); refine' decode_ctr w mean mg mb _ _ (by omega) _ _ _ _ _ _ _ _ _ _ _ _ _ _ _ _ _ _ BZ FZ XZ NZ TZ rfl (by ((try simp only [depth_under_make, depth_under_kw, depth_in1, depth_deeper, depth_caller]); (try dsimp only [ktrTop]); omega)) (by ((try simp only [units_in1, units_deeper, Around.mark_units, units_caller]); (try dsimp only [ktrTop]); omega)) ?_; intro _ _ _ _ _; (try dsimp only); (try k_fold)) | ((with_reducible show wpAny _ _ (PySem.call (PySem.Value.ref 65) [PySem.Value.str _ _]) _ _ _); (rename Fr _ _ _ _ => FZ); (rename News _ _ _ _ => NZ); (rename Below _ _ _ _ => BZ); (rename Frag.In _ _ => XZ); (rename Top _ _ _ _ _ _ => TZ); refine' header_ctr w mean mg mb _ _ (by omega) _ _ _ _ _ _ _ _ _ _ _ _ _ _ _ _ _ _ BZ FZ XZ NZ TZ rfl (by ((try simp only [depth_under_make, depth_under_kw, depth_in1, depth_deeper, depth_caller]); (try dsimp only [ktrTop]); omega)) (by ((try simp only [units_in1, units_deeper, Around.mark_units, units_caller]); (try dsimp only [ktrTop]); omega)) ?_; intro _ _ _ _ _; (try dsimp only); (try k_fold)) | ((fail_if_success (with_reducible show wpAny _ _ (PySem.exec (PySem.Stmt.While _ _ _ _) _) _ _ _)); (fail_if_success (with_reducible show wpAny _ _ (PySem.pyIter _) _ _ _)); (fail_if_success (with_reducible show wpAny _ _ (PySem.call (PySem.Value.ref _) _ _) _ _ _)); (fail_if_success (with_reducible show InvEndN _ _ _ _ _ _ _)); (fail_if_success (with_reducible show KswEnd _ _ _ _ _ _ _ _ _ _ _ _)); (first | (k_unfold; (try dsimp only)) | (k_end; wrow_close) | (walk1; (all_goals (try (conv => arg 6; dsimp only)))) | (dsimp only; walk1) | (leave1; try dsimp only) | fail "no step")))
        refine p_cw_type (wpP_of ?_)
        repeat' ((fail_if_success (with_reducible show LeaveS0 _ _ _ _ _ _ _ _)); first | ((with_reducible show wpAny _ _ (PySem.execs (_ :: _) _) _ _ _); refine wpAny_execs_cons (tok_q (n := 1) (by (try dsimp only); (first | omega | (simp; done) | (simp; omega))) ?_); (try dsimp only)) | ((with_reducible show wpAny _ _ (PySem.eval (PySem.Expr.Call (PySem.Expr.Name (PySem.Str.ofString "header_decode") _) _ _ _) _) _ _ _); refine tok_q (n := 1) (by (try dsimp only); omega) ?_; walk1; (all_goals (try (conv => arg 6; dsimp only)))) | ((with_reducible show wpAny _ _ (PySem.call (PySem.Value.builtin "str.replace") _) _ _ _); refine SC.replaceW (by (show @Ne Nat _ _); omega) (by (show @Ne Nat _ _); omega) (by (show @Ne Nat _ _); omega) (by decide +kernel) (by omega) (by decide +kernel) ?_; intro _ _; (try dsimp only); (try k_fold)) | ((with_reducible show (1 ≤ _) → _); intro htk; (try dsimp only at htk); (try dsimp only)) | ((with_reducible show wpAny _ _ (PySem.call (PySem.Value.ref 95) [PySem.Value.str _ _]) _ _ _); (rename Fr _ _ _ _ => FZ); (rename News _ _ _ _ => NZ); (rename Below _ _ _ _ => BZ); (rename Frag.In _ _ => XZ); (rename Top _ _ _ _ _ _ => TZ); refine' due_ctr w mean mg mb _ _ (slice_two _) _ _ _ _ _ _ _ _ _ _ _ _ _ _ _ _ _ _ BZ FZ XZ NZ TZ rfl (by ((try simp only [depth_under_make, depth_under_kw, depth_in1, depth_deeper, depth_caller]); (try dsimp only [ktrTop]); omega)) (by ((try simp only [units_in1, units_deeper, Around.mark_units, units_caller]); (try dsimp only [ktrTop]); omega)) ?_; intro _ _ _ _ _; (try dsimp only); (try k_fold)) | ((with_reducible show wpAny _ _ (PySem.call (PySem.Value.ref 74) [PySem.Value.str _ _]) _ _ _); (rename Fr _ _ _ _ => FZ); (rename News _ _ _ _ => NZ); (rename Below _ _ _ _ => BZ); (rename Frag.In _ _ => XZ); (rename Top _ _ _ _ _ _ => TZ); refine' figure_ctr w mean mg mb _ _ _ (by with_reducible assumption) _ _ _ _ _ _ _ _ _ _ _ _ _ _ _ _ _ _ BZ FZ XZ NZ TZ rfl (by ((try simp only [depth_under_make, depth_under_kw, depth_in1, depth_deeper, depth_caller]); (try dsimp only [ktrTop]); omega)) (by ((try simp only [units_in1, units_deeper, Around.mark_units, units_caller]); (try dsimp only [ktrTop]); omega)) ?_; intro _ _ _ _ _; (try dsimp only); (try k_fold)) | ((with_reducible show wpAny _ _ (PySem.call (PySem.Value.ref 51) [PySem.Value.str _ _]) _ _ _); (rename Fr _ _ _ _ => FZ); (rename News _ _ _ _ => NZ); (rename Below _ _ _ _ => BZ); (rename Frag.In _ _ => XZ); (rename Top _ _ _ _ _ _ => TZ); refine' decode_ctr w mean mg mb _ _ (by omega) _ _ _ _ _ _ _ _ _ _ _ _ _ _ _ _ _ _ BZ FZ XZ NZ TZ rfl (by ((try simp only [depth_under_make, depth_under_kw, depth_in1, depth_deeper, depth_caller]); (try dsimp only [ktrTop]); omega)) (by ((try simp only [units_in1, units_deeper, Around.mark_units, units_caller]); (try dsimp only [ktrTop]); omega)) ?_; intro _ _ _ _ _; (try dsimp only); (try k_fold)) | ((with_reducible show wpAny _ _ (PySem.call (PySem.Value.ref 65) [PySem.Value.str _ _]) _ _ _); (rename Fr _ _ _ _ => FZ); (rename News _ _ _ _ => NZ); (rename Below _ _ _ _ => BZ); (rename Frag.In _ _ => XZ); (rename Top _ _ _ _ _ _ => TZ); refine' header_ctr w mean mg mb _ _ (by omega) _ _ _ _ _ _ _ _ _ _ _ _ _ _ _ _ _ _ BZ FZ XZ NZ TZ rfl (by ((try simp only [depth_under_make, depth_under_kw, depth_in1, depth_deeper, depth_caller]); (try dsimp only [ktrTop]); omega)) (by ((try simp only [units_in1, units_deeper, Around.mark_units, units_caller]); (try dsimp only [ktrTop]); omega)) ?_; intro _ _ _ _ _; (try dsimp only); (try k_fold)) | ((fail_if_success (with_reducible show wpAny _ _ (PySem.exec (PySem.Stmt.While _ _ _ _) _) _ _ _)); (fail_if_success (with_reducible show wpAny _ _ (PySem.pyIter _) _ _ _)); (fail_if_success (with_reducible show wpAny _ _ (PySem.call (PySem.Value.ref _) _ _) _ _ _)); (fail_if_success (with_reducible show InvEndN _ _ _ _ _ _ _)); (fail_if_success (with_reducible show KswEnd _ _ _ _ _ _ _ _ _ _ _ _)); (first | (k_unfold; (try dsimp only)) | (k_end; wrow_close) | (walk1; (all_goals (try (conv => arg 6; dsimp only)))) | (dsimp only; walk1) | (leave1; try dsimp only) | fail "no step")))
        (rename Fr _ _ _ _ => F3); (rename News _ _ _ _ => N3)
        refine p_int16_none hn ok.asc rfl ?_
        intro hpe e vs tke hM
        (try dsimp only)
        refine leave_raiseS (base := h₀) (g := g2) B2 hM.of F3 N3 ?_
        intro he2 te RS RK hsm
        (try dsimp only)
        refine caught_S0 (T' := "ValueError") RS FG2 BZ hsm X T D1 KtsTurn.refl ?ex PyProof.Rows.Boot.«ValueError» (by decide) PySem.F.isExc_ValueError PySem.F.notTuple_ValueError ?hs ?_
        case ex => k_is
        case hs => kts_sub
        intro he3 g3 n3 T3 F4 N4 G4 N5 B4 X4 P4 D4
        clear N4 G4 RS RK hsm hM B2 X2 T2 F3 N3 FG2
        (try dsimp only at F4)
        (try k_lift B4)
        (try dsimp only)
        (try k_fold)
        repeat' ((fail_if_success (with_reducible show LeaveS0 _ _ _ _ _ _ _ _)); first | ((with_reducible show wpAny _ _ (PySem.execs (_ :: _) _) _ _ _); refine wpAny_execs_cons (tok_q (n := 1) (by (try dsimp only); (first | omega | (simp; done) | (simp; omega))) ?_); (try dsimp only)) | ((with_reducible show wpAny _ _ (PySem.eval (PySem.Expr.Call (PySem.Expr.Name (PySem.Str.ofString "header_decode") _) _ _ _) _) _ _ _); refine tok_q (n := 1) (by (try dsimp only); omega) ?_; walk1; (all_goals (try (conv => arg 6; dsimp only)))) | ((with_reducible show wpAny _ _ (PySem.call (PySem.Value.builtin "str.replace") _) _ _ _); refine SC.replaceW (by (show @Ne Nat _ _); omega) (by (show @Ne Nat _ _); omega) (by (show @Ne Nat _ _); omega) (by decide +kernel) (by omega) (by decide +kernel) ?_; intro _ _; (try dsimp only); (try k_fold)) | ((with_reducible show (1 ≤ _) → _); intro htk; (try dsimp only at htk); (try dsimp only)) | ((with_reducible show wpAny _ _ (PySem.call (PySem.Value.ref 95) [PySem.Value.str _ _]) _ _ _); (rename Fr _ _ _ _ => FZ); (rename News _ _ _ _ => NZ); (rename Below _ _ _ _ => BZ); (rename Frag.In _ _ => XZ); (rename Top _ _ _ _ _ _ => TZ); refine' due_ctr w mean mg mb _ _ (slice_two _) _ _ _ _ _ _ _ _ _ _ _ _ _ _ _ _ _ _ BZ FZ XZ NZ TZ rfl (by ((try simp only [depth_under_make, depth_under_kw, depth_in1, depth_deeper, depth_caller]); (try dsimp only [ktrTop]); omega)) (by ((try simp only [units_in1, units_deeper, Around.mark_units, units_caller]); (try dsimp only [ktrTop]); omega)) ?_; intro _ _ _ _ _; (try dsimp only); (try k_fold)) | ((with_reducible show wpAny _ _ (PySem.call (PySem.Value.ref 74) [PySem.Value.str _ _]) _ _ _); (rename Fr _ _ _ _ => FZ); (rename News _ _ _ _ => NZ); (rename Below _ _ _ _ => BZ); (rename Frag.In _ _ => XZ); (rename Top _ _ _ _ _ _ => TZ); refine' figure_ctr w mean mg mb _ _ _ (by with_reducible assumption) _ _ _ _ _ _ _ _ _ _ _ _ _ _ _ _ _ _ BZ FZ XZ NZ TZ rfl (by ((try simp only [depth_under_make, depth_under_kw, depth_in1, depth_deeper, depth_caller]); (try dsimp only [ktrTop]); omega)) (by ((try simp only [units_in1, units_deeper, Around.mark_units, units_caller]); (try dsimp only [ktrTop]); omega)) ?_; intro _ _ _ _ _; (try dsimp only); (try k_fold)) | ((with_reducible show wpAny _ _ (PySem.call (PySem.Value.ref 51) [PySem.Value.str _ _]) _ _ _); (rename Fr _ _ _ _ => FZ); (rename News _ _ _ _ => NZ); (rename Below _ _ _ _ => BZ); (rename Frag.In _ _ => XZ); (rename Top _ _ _ _ _ _ => TZ); refine' decode_ctr w mean mg mb _ _ (by omega) _ _ _ _ _ _ _ _ _ _ _ _ _ _ _ _ _ _ BZ FZ XZ NZ TZ rfl (by ((try simp only [depth_under_make, depth_under_kw, depth_in1, depth_deeper, depth_caller]); (try dsimp only [ktrTop]); omega)) (by ((try simp only [units_in1, units_deeper, Around.mark_units, units_caller]); (try dsimp only [ktrTop]); omega)) ?_; intro _ _ _ _ _; (try dsimp only); (try k_fold)) | ((with_reducible show wpAny _ _ (PySem.call (PySem.Value.ref 65) [PySem.Value.str _ _]) _ _ _); (rename Fr _ _ _ _ => FZ); (rename News _ _ _ _ => NZ); (rename Below _ _ _ _ => BZ); (rename Frag.In _ _ => XZ); (rename Top _ _ _ _ _ _ => TZ); refine' header_ctr w mean mg mb _ _ (by omega) _ _ _ _ _ _ _ _ _ _ _ _ _ _ _ _ _ _ BZ FZ XZ NZ TZ rfl (by ((try simp only [depth_under_make, depth_under_kw, depth_in1, depth_deeper, depth_caller]); (try dsimp only [ktrTop]); omega)) (by ((try simp only [units_in1, units_deeper, Around.mark_units, units_caller]); (try dsimp only [ktrTop]); omega)) ?_; intro _ _ _ _ _; (try dsimp only); (try k_fold)) | ((fail_if_success (with_reducible show wpAny _ _ (PySem.exec (PySem.Stmt.While _ _ _ _) _) _ _ _)); (fail_if_success (with_reducible show wpAny _ _ (PySem.pyIter _) _ _ _)); (fail_if_success (with_reducible show wpAny _ _ (PySem.call (PySem.Value.ref _) _ _) _ _ _)); (fail_if_success (with_reducible show InvEndN _ _ _ _ _ _ _)); (fail_if_success (with_reducible show KswEnd _ _ _ _ _ _ _ _ _ _ _ _)); (first | (k_unfold; (try dsimp only)) | (k_end; wrow_close) | (walk1; (all_goals (try (conv => arg 6; dsimp only)))) | (dsimp only; walk1) | (leave1; try dsimp only) | fail "no step")))
        all_goals (try dsimp only)
        all_goals first
          | (exfalso; omega)
          | (exfalso; (have e : (true != decide (dueL (Txt.slice x (some 1) (some 3)).cps.toList < 0)) = true := by with_reducible assumption); rw [decide_eq_true hneg] at e; cases e)
          | (exfalso; (have e : (false != decide (dueL (Txt.slice x (some 1) (some 3)).cps.toList < 0)) = true := by with_reducible assumption); rw [decide_eq_false hneg] at e; cases e)
          | (exfalso; (have e : ((⟨#[(dueL (Txt.slice x (some 1) (some 3)).cps.toList).toNat]⟩ : Str) != ⟨#[(dueL (Txt.slice x (some 1) (some 3)).cps.toList).toNat]⟩) = true := by with_reducible assumption); simp at e; done)
          | (exfalso; (have e1 := fig_if hi0 (b := true) (by with_reducible assumption)); (have e2 := fig_if hi1 (b := true) (by with_reducible assumption)); exact hex_neg hsc hneg e1 e2)
          | (exfalso; (have e1 := fig_if hi0 (b := true) (by with_reducible assumption)); (have e2 := fig_if hi1 (b := true) (by with_reducible assumption)); (have e3 := first_eq hc (by with_reducible assumption)); exact bne_yes (ok.esc _ _ (e3 ▸ hc) e1 e2).1.symm (by with_reducible assumption))
          | (exfalso; (have e1 := fig_if hi0 (b := true) (by with_reducible assumption)); (have e2 := fig_if hi1 (b := true) (by with_reducible assumption)); (have e3 := first_eq hc (by with_reducible assumption)); exact bne_yes (ok.esc _ _ (e3 ▸ hc) e1 e2).2.symm (by with_reducible assumption))
          | (exfalso; (have e1 := fig_if hi0 (b := false) (by with_reducible assumption)); (have e3 := first_eq hc (by with_reducible assumption)); exact bne_yes (ok.noesc _ _ (e3 ▸ hc) (.inl e1)).1 (by with_reducible assumption))
          | (exfalso; (have e2 := fig_if hi1 (b := false) (by with_reducible assumption)); (have e3 := first_eq hc (by with_reducible assumption)); exact bne_yes (ok.noesc _ _ (e3 ▸ hc) (.inr e2)).1 (by with_reducible assumption))
          | ((with_reducible show LeaveS0 _ _ _ _ _ _ _ _)
             (rename Fr _ _ _ _ => FE); (rename News _ _ _ _ => NE)
             refine leaveS0_ FE NE T3 (fun FR NR => ret_b (hret 0 _ _ FR NR) ?_)
             (first
          | rfl
          | (rw [Bool.not_eq_true']; with_reducible assumption)
          | exact last_eq (ok.noesc _ _ ((first_eq hc (by with_reducible assumption)) ▸ hc) (.inl (fig_if hi0 (b := false) (by with_reducible assumption)))).2 (end_occ hi0 (by with_reducible assumption)) (end_occ hi1 (by with_reducible assumption))
          | exact last_eq (ok.noesc _ _ ((first_eq hc (by with_reducible assumption)) ▸ hc) (.inr (fig_if hi1 (b := false) (by with_reducible assumption)))).2 (end_occ hi0 (by with_reducible assumption)) (end_occ hi1 (by with_reducible assumption))))
    
      · refine wpP_call ?_
        k_dflt (refine' codeP_defS ?k1 ?k2 ?k3 ?k4 ?k6 ?k7 ?k8 ?k9 ?kB ?_ ?kK ?c2 ?c3 ?c4 ?c5; (case kK => assumption); (case k1 => k_asm); (case k2 => k_asm); (case k3 => k_asm); (case k4 => k_asm); (case k6 => k_is); (case k7 => k_is); (case k8 => first | ktr_room | decide +kernel); (case k9 => first | exact BindsTo.of_eq rfl | exact binds_K (by k_in) rfl (by k_is) rfl rfl rfl); (case kB => exact locs rfl); (case c2 => exact rfl); (case c3 => exact rfl); (case c4 => exact rfl); (case c5 => decide); k_whole; intro g1 L1 h1 FG1 F1 N1 B1 X1 T1 D1 nL1; (try dsimp only); (try k_lift B1); (try k_fold))
        refine wpP_of ?_
        repeat' ((fail_if_success (with_reducible show LeaveS0 _ _ _ _ _ _ _ _)); first | ((with_reducible show wpAny _ _ (PySem.execs (_ :: _) _) _ _ _); refine wpAny_execs_cons (tok_q (n := 1) (by (try dsimp only); (first | omega | (simp; done) | (simp; omega))) ?_); (try dsimp only)) | ((with_reducible show wpAny _ _ (PySem.eval (PySem.Expr.Call (PySem.Expr.Name (PySem.Str.ofString "header_decode") _) _ _ _) _) _ _ _); refine tok_q (n := 1) (by (try dsimp only); omega) ?_; walk1; (all_goals (try (conv => arg 6; dsimp only)))) | ((with_reducible show wpAny _ _ (PySem.call (PySem.Value.builtin "str.replace") _) _ _ _); refine SC.replaceW (by (show @Ne Nat _ _); omega) (by (show @Ne Nat _ _); omega) (by (show @Ne Nat _ _); omega) (by decide +kernel) (by omega) (by decide +kernel) ?_; intro _ _; (try dsimp only); (try k_fold)) | ((with_reducible show (1 ≤ _) → _); intro htk; (try dsimp only at htk); (try dsimp only)) | ((with_reducible show wpAny _ _ (PySem.call (PySem.Value.ref 95) [PySem.Value.str _ _]) _ _ _); (rename Fr _ _ _ _ => FZ); (rename News _ _ _ _ => NZ); (rename Below _ _ _ _ => BZ); (rename Frag.In _ _ => XZ); (rename Top _ _ _ _ _ _ => TZ); refine' due_ctr w mean mg mb _ _ (slice_two _) _ _ _ _ _ _ _ _ _ _ _ _ _ _ _ _ _ _ BZ FZ XZ NZ TZ rfl (by ((try simp only [depth_under_make, depth_under_kw, depth_in1, depth_deeper, depth_caller]); (try dsimp only [ktrTop]); omega)) (by ((try simp only [units_in1, units_deeper, Around.mark_units, units_caller]); (try dsimp only [ktrTop]); omega)) ?_; intro _ _ _ _ _; (try dsimp only); (try k_fold)) | ((with_reducible show wpAny _ _ (PySem.call (PySem.Value.ref 74) [PySem.Value.str _ _]) _ _ _); (rename Fr _ _ _ _ => FZ); (rename News _ _ _ _ => NZ); (rename Below _ _ _ _ => BZ); (rename Frag.In _ _ => XZ); (rename Top _ _ _ _ _ _ => TZ); refine' figure_ctr w mean mg mb _ _ _ (by with_reducible assumption) _ _ _ _ _ _ _ _ _ _ _ _ _ _ _ _ _ _ BZ FZ XZ NZ TZ rfl (by ((try simp only [depth_under_make, depth_under_kw, depth_in1, depth_deeper, depth_caller]); (try dsimp only [ktrTop]); omega)) (by ((try simp only [units_in1, units_deeper, Around.mark_units, units_caller]); (try dsimp only [ktrTop]); omega)) ?_; intro _ _ _ _ _; (try dsimp only); (try k_fold)) | ((with_reducible show wpAny _ _ (PySem.call (PySem.Value.ref 51) [PySem.Value.str _ _]) _ _ _); (rename Fr _ _ _ _ => FZ); (rename News _ _ _ _ => NZ); (rename Below _ _ _ _ => BZ); (rename Frag.In _ _ => XZ); (rename Top _ _ _ _ _ _ => TZ); refine' decode_ctr w mean mg mb _ _ (by omega) _ _ _ _ _ _ _ _ _ _ _ _ _ _ _ _ _ _ BZ FZ XZ NZ TZ rfl (by ((try simp only [depth_under_make, depth_under_kw, depth_in1, depth_deeper, depth_caller]); (try dsimp only [ktrTop]); omega)) (by ((try simp only [units_in1, units_deeper, Around.mark_units, units_caller]); (try dsimp only [ktrTop]); omega)) ?_; intro _ _ _ _ _; (try dsimp only); (try k_fold)) | ((with_reducible show wpAny _ _ (PySem.call (PySem.Value.ref 65) [PySem.Value.str _ _]) _ _ _); (rename Fr _ _ _ _ => FZ); (rename News _ _ _ _ => NZ); (rename Below _ _ _ _ => BZ); (rename Frag.In _ _ => XZ); (rename Top _ _ _ _ _ _ => TZ); refine' header_ctr w mean mg mb _ _ (by omega) _ _ _ _ _ _ _ _ _ _ _ _ _ _ _ _ _ _ BZ FZ XZ NZ TZ rfl (by ((try simp only [depth_under_make, depth_under_kw, depth_in1, depth_deeper, depth_caller]); (try dsimp only [ktrTop]); omega)) (by ((try simp only [units_in1, units_deeper, Around.mark_units, units_caller]); (try dsimp only [ktrTop]); omega)) ?_; intro _ _ _ _ _; (try dsimp only); (try k_fold)) | ((fail_if_success (with_reducible show wpAny _ _ (PySem.exec (PySem.Stmt.While _ _ _ _) _) _ _ _)); (fail_if_success (with_reducible show wpAny _ _ (PySem.pyIter _) _ _ _)); (fail_if_success (with_reducible show wpAny _ _ (PySem.call (PySem.Value.ref _) _ _) _ _ _)); (fail_if_success (with_reducible show InvEndN _ _ _ _ _ _ _)); (fail_if_success (with_reducible show KswEnd _ _ _ _ _ _ _ _ _ _ _ _)); (first | (k_unfold; (try dsimp only)) | (k_end; wrow_close) | (walk1; (all_goals (try (conv => arg 6; dsimp only)))) | (dsimp only; walk1) | (leave1; try dsimp only) | fail "no step")))
        refine wpAny_call ?_
        k_dflt (refine' code_def ?k1 ?k2 ?k3 ?k4 ?k5 ?kA ?kF ?kK ?k6 ?k7 ?k8 ?k9 ?kB ?_ ?c2 ?c3 ?c4 ?c5; (case kA => exact rfl); (case kF => exact rfl); (case kK => first | assumption | exact rfl); (case k1 => k_asm); (case k2 => k_asm); (case k3 => k_asm); (case k4 => k_asm); (case k5 => k_asm); (case k6 => k_is); (case k7 => k_is); (case k8 => ktr_room); (case k9 => first | exact BindsTo.of_eq rfl | exact binds_K (by k_in) rfl (by k_is) rfl rfl rfl); (case c5 => decide); (case kB => exact locs rfl); (case c2 => exact rfl); (case c3 => exact rfl); (case c4 => exact rfl); k_whole; intro g2 L2 h2 FG2 F2 N2 B2 X2 T2; (try dsimp only); (try k_lift B2); (try k_fold))
        repeat' ((fail_if_success (with_reducible show wpAny _ _ (PySem.exec (PySem.Stmt.While _ _ _ _) _) _ _ _)); (fail_if_success (with_reducible show wpAny _ _ (PySem.pyIter _) _ _ _)); (fail_if_success (with_reducible show wpAny _ _ (PySem.call (PySem.Value.ref _) _ _) _ _ _)); (fail_if_success (with_reducible show InvEndN _ _ _ _ _ _ _)); (fail_if_success (with_reducible show KswEnd _ _ _ _ _ _ _ _ _ _ _ _)); (first | (k_unfold; (try dsimp only)) | (k_end; wrow_close) | walk1 | (dsimp only; walk1) | (leave1; try dsimp only) | fail "no step"))
        refine call_int16_some hn (by omega) ?_
        (try dsimp only)
        repeat' ((fail_if_success (with_reducible show wpAny _ _ (PySem.exec (PySem.Stmt.While _ _ _ _) _) _ _ _)); (fail_if_success (with_reducible show wpAny _ _ (PySem.pyIter _) _ _ _)); (fail_if_success (with_reducible show wpAny _ _ (PySem.call (PySem.Value.ref _) _ _) _ _ _)); (fail_if_success (with_reducible show InvEndN _ _ _ _ _ _ _)); (fail_if_success (with_reducible show KswEnd _ _ _ _ _ _ _ _ _ _ _ _)); (first | (k_unfold; (try dsimp only)) | (k_end; wrow_close) | walk1 | (dsimp only; walk1) | (leave1; try dsimp only) | fail "no step"))
        (rename Fr _ _ _ _ => F3); (rename News _ _ _ _ => N3)
        refine chr_neg hn9 rfl ?_
        intro hpe e vs tke hM
        (try dsimp only)
        refine leave_raiseS (base := h₀) (g := g2) B2 hM.of F3 N3 ?_
        intro he2 te RS RK hsm
        (try dsimp only)
        refine caught_S0 (T' := "ValueError") RS FG2 BZ hsm X T D1 KtsTurn.refl ?ex PyProof.Rows.Boot.«ValueError» (by decide) PySem.F.isExc_ValueError PySem.F.notTuple_ValueError ?hs ?_
        case ex => k_is
        case hs => kts_sub
        intro he3 g3 n3 T3 F4 N4 G4 N5 B4 X4 P4 D4
        clear N4 G4 RS RK hsm hM B2 X2 T2 F3 N3 FG2
        (try dsimp only at F4)
        (try k_lift B4)
        (try dsimp only)
        (try k_fold)
        repeat' ((fail_if_success (with_reducible show LeaveS0 _ _ _ _ _ _ _ _)); first | ((with_reducible show wpAny _ _ (PySem.execs (_ :: _) _) _ _ _); refine wpAny_execs_cons (tok_q (n := 1) (by (try dsimp only); (first | omega | (simp; done) | (simp; omega))) ?_); (try dsimp only)) | ((with_reducible show wpAny _ _ (PySem.eval (PySem.Expr.Call (PySem.Expr.Name (PySem.Str.ofString "header_decode") _) _ _ _) _) _ _ _); refine tok_q (n := 1) (by (try dsimp only); omega) ?_; walk1; (all_goals (try (conv => arg 6; dsimp only)))) | ((with_reducible show wpAny _ _ (PySem.call (PySem.Value.builtin "str.replace") _) _ _ _); refine SC.replaceW (by (show @Ne Nat _ _); omega) (by (show @Ne Nat _ _); omega) (by (show @Ne Nat _ _); omega) (by decide +kernel) (by omega) (by decide +kernel) ?_; intro _ _; (try dsimp only); (try k_fold)) | ((with_reducible show (1 ≤ _) → _); intro htk; (try dsimp only at htk); (try dsimp only)) | ((with_reducible show wpAny _ _ (PySem.call (PySem.Value.ref 95) [PySem.Value.str _ _]) _ _ _); (rename Fr _ _ _ _ => FZ); (rename News _ _ _ _ => NZ); (rename Below _ _ _ _ => BZ); (rename Frag.In _ _ => XZ); (rename Top _ _ _ _ _ _ => TZ); refine' due_ctr w mean mg mb _ _ (slice_two _) _ _ _ _ _ _ _ _ _ _ _ _ _ _ _ _ _ _ BZ FZ XZ NZ TZ rfl (by ((try simp only [depth_under_make, depth_under_kw, depth_in1, depth_deeper, depth_caller]); (try dsimp only [ktrTop]); omega)) (by ((try simp only [units_in1, units_deeper, Around.mark_units, units_caller]); (try dsimp only [ktrTop]); omega)) ?_; intro _ _ _ _ _; (try dsimp only); (try k_fold)) | ((with_reducible show wpAny _ _ (PySem.call (PySem.Value.ref 74) [PySem.Value.str _ _]) _ _ _); (rename Fr _ _ _ _ => FZ); (rename News _ _ _ _ => NZ); (rename Below _ _ _ _ => BZ); (rename Frag.In _ _ => XZ); (rename Top _ _ _ _ _ _ => TZ); refine' figure_ctr w mean mg mb _ _ _ (by with_reducible assumption) _ _ _ _ _ _ _ _ _ _ _ _ _ _ _ _ _ _ BZ FZ XZ NZ TZ rfl (by ((try simp only [depth_under_make, depth_under_kw, depth_in1, depth_deeper, depth_caller]); (try dsimp only [ktrTop]); omega)) (by ((try simp only [units_in1, units_deeper, Around.mark_units, units_caller]); (try dsimp only [ktrTop]); omega)) ?_; intro _ _ _ _ _; (try dsimp only); (try k_fold)) | ((with_reducible show wpAny _ _ (PySem.call (PySem.Value.ref 51) [PySem.Value.str _ _]) _ _ _); (rename Fr _ _ _ _ => FZ); (rename News _ _ _ _ => NZ); (rename Below _ _ _ _ => BZ); (rename Frag.In _ _ => XZ); (rename Top _ _ _ _ _ _ => TZ); refine' decode_ctr w mean mg mb _ _ (by omega) _ _ _ _ _ _ _ _ _ _ _ _ _ _ _ _ _ _ BZ FZ XZ NZ TZ rfl (by ((try simp only [depth_under_make, depth_under_kw, depth_in1, depth_deeper, depth_caller]); (try dsimp only [ktrTop]); omega)) (by ((try simp only [units_in1, units_deeper, Around.mark_units, units_caller]); (try dsimp only [ktrTop]); omega)) ?_; intro _ _ _ _ _; (try dsimp only); (try k_fold)) | ((with_reducible show wpAny _ _ (PySem.call (PySem.Value.ref 65) [PySem.Value.str _ _]) _ _ _); (rename Fr _ _ _ _ => FZ); (rename News _ _ _ _ => NZ); (rename Below _ _ _ _ => BZ); (rename Frag.In _ _ => XZ); (rename Top _ _ _ _ _ _ => TZ); refine' header_ctr w mean mg mb _ _ (by omega) _ _ _ _ _ _ _ _ _ _ _ _ _ _ _ _ _ _ BZ FZ XZ NZ TZ rfl (by ((try simp only [depth_under_make, depth_under_kw, depth_in1, depth_deeper, depth_caller]); (try dsimp only [ktrTop]); omega)) (by ((try simp only [units_in1, units_deeper, Around.mark_units, units_caller]); (try dsimp only [ktrTop]); omega)) ?_; intro _ _ _ _ _; (try dsimp only); (try k_fold)) | ((fail_if_success (with_reducible show wpAny _ _ (PySem.exec (PySem.Stmt.While _ _ _ _) _) _ _ _)); (fail_if_success (with_reducible show wpAny _ _ (PySem.pyIter _) _ _ _)); (fail_if_success (with_reducible show wpAny _ _ (PySem.call (PySem.Value.ref _) _ _) _ _ _)); (fail_if_success (with_reducible show InvEndN _ _ _ _ _ _ _)); (fail_if_success (with_reducible show KswEnd _ _ _ _ _ _ _ _ _ _ _ _)); (first | (k_unfold; (try dsimp only)) | (k_end; wrow_close) | (walk1; (all_goals (try (conv => arg 6; dsimp only)))) | (dsimp only; walk1) | (leave1; try dsimp only) | fail "no step")))
        all_goals (try dsimp only)
        all_goals first
          | (exfalso; omega)
          | (exfalso; (have e : (true != decide (dueL (Txt.slice x (some 1) (some 3)).cps.toList < 0)) = true := by with_reducible assumption); rw [decide_eq_true hneg] at e; cases e)
          | (exfalso; (have e : (false != decide (dueL (Txt.slice x (some 1) (some 3)).cps.toList < 0)) = true := by with_reducible assumption); rw [decide_eq_false hneg] at e; cases e)
          | (exfalso; (have e : ((⟨#[(dueL (Txt.slice x (some 1) (some 3)).cps.toList).toNat]⟩ : Str) != ⟨#[(dueL (Txt.slice x (some 1) (some 3)).cps.toList).toNat]⟩) = true := by with_reducible assumption); simp at e; done)
          | (exfalso; (have e1 := fig_if hi0 (b := true) (by with_reducible assumption)); (have e2 := fig_if hi1 (b := true) (by with_reducible assumption)); exact hex_neg hsc hneg e1 e2)
          | (exfalso; (have e1 := fig_if hi0 (b := true) (by with_reducible assumption)); (have e2 := fig_if hi1 (b := true) (by with_reducible assumption)); (have e3 := first_eq hc (by with_reducible assumption)); exact bne_yes (ok.esc _ _ (e3 ▸ hc) e1 e2).1.symm (by with_reducible assumption))
          | (exfalso; (have e1 := fig_if hi0 (b := true) (by with_reducible assumption)); (have e2 := fig_if hi1 (b := true) (by with_reducible assumption)); (have e3 := first_eq hc (by with_reducible assumption)); exact bne_yes (ok.esc _ _ (e3 ▸ hc) e1 e2).2.symm (by with_reducible assumption))
          | (exfalso; (have e1 := fig_if hi0 (b := false) (by with_reducible assumption)); (have e3 := first_eq hc (by with_reducible assumption)); exact bne_yes (ok.noesc _ _ (e3 ▸ hc) (.inl e1)).1 (by with_reducible assumption))
          | (exfalso; (have e2 := fig_if hi1 (b := false) (by with_reducible assumption)); (have e3 := first_eq hc (by with_reducible assumption)); exact bne_yes (ok.noesc _ _ (e3 ▸ hc) (.inr e2)).1 (by with_reducible assumption))
          | ((with_reducible show LeaveS0 _ _ _ _ _ _ _ _)
             (rename Fr _ _ _ _ => FE); (rename News _ _ _ _ => NE)
             refine leaveS0_ FE NE T3 (fun FR NR => ret_b (hret 0 _ _ FR NR) ?_)
             (first
          | rfl
          | (rw [Bool.not_eq_true']; with_reducible assumption)
          | exact last_eq (ok.noesc _ _ ((first_eq hc (by with_reducible assumption)) ▸ hc) (.inl (fig_if hi0 (b := false) (by with_reducible assumption)))).2 (end_occ hi0 (by with_reducible assumption)) (end_occ hi1 (by with_reducible assumption))
          | exact last_eq (ok.noesc _ _ ((first_eq hc (by with_reducible assumption)) ▸ hc) (.inr (fig_if hi1 (b := false) (by with_reducible assumption)))).2 (end_occ hi0 (by with_reducible assumption)) (end_occ hi1 (by with_reducible assumption))))
    
    · have hn := ok.pos hneg
      refine wpP_call ?_
      k_dflt (refine' codeP_defS ?k1 ?k2 ?k3 ?k4 ?k6 ?k7 ?k8 ?k9 ?kB ?_ ?kK ?c2 ?c3 ?c4 ?c5; (case kK => assumption); (case k1 => k_asm); (case k2 => k_asm); (case k3 => k_asm); (case k4 => k_asm); (case k6 => k_is); (case k7 => k_is); (case k8 => first | ktr_room | decide +kernel); (case k9 => first | exact BindsTo.of_eq rfl | exact binds_K (by k_in) rfl (by k_is) rfl rfl rfl); (case kB => exact locs rfl); (case c2 => exact rfl); (case c3 => exact rfl); (case c4 => exact rfl); (case c5 => decide); k_whole; intro g1 L1 h1 FG1 F1 N1 B1 X1 T1 D1 nL1; (try dsimp only); (try k_lift B1); (try k_fold))
      refine wpP_of ?_
      repeat' ((fail_if_success (with_reducible show LeaveS0 _ _ _ _ _ _ _ _)); first | ((with_reducible show wpAny _ _ (PySem.execs (_ :: _) _) _ _ _); refine wpAny_execs_cons (tok_q (n := 1) (by (try dsimp only); (first | omega | (simp; done) | (simp; omega))) ?_); (try dsimp only)) | ((with_reducible show wpAny _ _ (PySem.eval (PySem.Expr.Call (PySem.Expr.Name (PySem.Str.ofString "header_decode") _) _ _ _) _) _ _ _); refine tok_q (n := 1) (by (try dsimp only); omega) ?_; walk1; (all_goals (try (conv => arg 6; dsimp only)))) | ((with_reducible show wpAny _ _ (PySem.call (PySem.Value.builtin "str.replace") _) _ _ _); refine SC.replaceW (by (show @Ne Nat _ _); omega) (by (show @Ne Nat _ _); omega) (by (show @Ne Nat _ _); omega) (by decide +kernel) (by omega) (by decide +kernel) ?_; intro _ _; (try dsimp only); (try k_fold)) | ((with_reducible show (1 ≤ _) → _); intro htk; (try dsimp only at htk); (try dsimp only)) | ((with_reducible show wpAny _ _ (PySem.call (PySem.Value.ref 95) [PySem.Value.str _ _]) _ _ _); (rename Fr _ _ _ _ => FZ); (rename News _ _ _ _ => NZ); (rename Below _ _ _ _ => BZ); (rename Frag.In _ _ => XZ); (rename Top _ _ _ _ _ _ => TZ); refine' due_ctr w mean mg mb _ _ (slice_two _) _ _ _ _ _ _ _ _ _ _ _ _ _ _ _ _ _ _ BZ FZ XZ NZ TZ rfl (by ((try simp only [depth_under_make, depth_under_kw, depth_in1, depth_deeper, depth_caller]); (try dsimp only [ktrTop]); omega)) (by ((try simp only [units_in1, units_deeper, Around.mark_units, units_caller]); (try dsimp only [ktrTop]); omega)) ?_; intro _ _ _ _ _; (try dsimp only); (try k_fold)) | ((with_reducible show wpAny _ _ (PySem.call (PySem.Value.ref 74) [PySem.Value.str _ _]) _ _ _); (rename Fr _ _ _ _ => FZ); (rename News _ _ _ _ => NZ); (rename Below _ _ _ _ => BZ); (rename Frag.In _ _ => XZ); (rename Top _ _ _ _ _ _ => TZ); refine' figure_ctr w mean mg mb _ _ _ (by with_reducible assumption) _ _ _ _ _ _ _ _ _ _ _ _ _ _ _ _ _ _ BZ FZ XZ NZ TZ rfl (by ((try simp only [depth_under_make, depth_under_kw, depth_in1, depth_deeper, depth_caller]); (try dsimp only [ktrTop]); omega)) (by ((try simp only [units_in1, units_deeper, Around.mark_units, units_caller]); (try dsimp only [ktrTop]); omega)) ?_; intro _ _ _ _ _; (try dsimp only); (try k_fold)) | ((with_reducible show wpAny _ _ (PySem.call (PySem.Value.ref 51) [PySem.Value.str _ _]) _ _ _); (rename Fr _ _ _ _ => FZ); (rename News _ _ _ _ => NZ); (rename Below _ _ _ _ => BZ); (rename Frag.In _ _ => XZ); (rename Top _ _ _ _ _ _ => TZ); refine' decode_ctr w mean mg mb _ _ (by omega) _ _ _ _ _ _ _ _ _ _ _ _ _ _ _ _ _ _ BZ FZ XZ NZ TZ rfl (by ((try simp only [depth_under_make, depth_under_kw, depth_in1, depth_deeper, depth_caller]); (try dsimp only [ktrTop]); omega)) (by ((try simp only [units_in1, units_deeper, Around.mark_units, units_caller]); (try dsimp only [ktrTop]); omega)) ?_; intro _ _ _ _ _; (try dsimp only); (try k_fold)) | ((with_reducible show wpAny _ _ (PySem.call (PySem.Value.ref 65) [PySem.Value.str _ _]) _ _ _); (rename Fr _ _ _ _ => FZ); (rename News _ _ _ _ => NZ); (rename Below _ _ _ _ => BZ); (rename Frag.In _ _ => XZ); (rename Top _ _ _ _ _ _ => TZ); refine' header_ctr w mean mg mb _ _ (by omega) _ _ _ _ _ _ _ _ _ _ _ _ _ _ _ _ _ _ BZ FZ XZ NZ TZ rfl (by ((try simp only [depth_under_make, depth_under_kw, depth_in1, depth_deeper, depth_caller]); (try dsimp only [ktrTop]); omega)) (by ((try simp only [units_in1, units_deeper, Around.mark_units, units_caller]); (try dsimp only [ktrTop]); omega)) ?_; intro _ _ _ _ _; (try dsimp only); (try k_fold)) | ((fail_if_success (with_reducible show wpAny _ _ (PySem.exec (PySem.Stmt.While _ _ _ _) _) _ _ _)); (fail_if_success (with_reducible show wpAny _ _ (PySem.pyIter _) _ _ _)); (fail_if_success (with_reducible show wpAny _ _ (PySem.call (PySem.Value.ref _) _ _) _ _ _)); (fail_if_success (with_reducible show InvEndN _ _ _ _ _ _ _)); (fail_if_success (with_reducible show KswEnd _ _ _ _ _ _ _ _ _ _ _ _)); (first | (k_unfold; (try dsimp only)) | (k_end; wrow_close) | (walk1; (all_goals (try (conv => arg 6; dsimp only)))) | (dsimp only; walk1) | (leave1; try dsimp only) | fail "no step")))
      (rename Fr _ _ _ _ => F2); (rename News _ _ _ _ => N2)
      refine' unquote_ctr w mean mg mb _ _ _ (by omega) hn (by omega) ok.lt _ _ _ _ _ _ _ _ _ _ _ _ _ _ _ _ _ _ BZ F2 XZ N2 TZ rfl (by ((try simp only [depth_under_make, depth_under_kw, depth_in1, depth_deeper, depth_caller]); (try dsimp only [ktrTop]); omega)) (by ((try simp only [units_in1, units_deeper, Around.mark_units, units_caller]); (try dsimp only [ktrTop]); omega)) ?_
      intro _ _ _ _ _
      (try dsimp only)
      (try k_fold)
      repeat' ((fail_if_success (with_reducible show LeaveS0 _ _ _ _ _ _ _ _)); first | ((with_reducible show wpAny _ _ (PySem.execs (_ :: _) _) _ _ _); refine wpAny_execs_cons (tok_q (n := 1) (by (try dsimp only); (first | omega | (simp; done) | (simp; omega))) ?_); (try dsimp only)) | ((with_reducible show wpAny _ _ (PySem.eval (PySem.Expr.Call (PySem.Expr.Name (PySem.Str.ofString "header_decode") _) _ _ _) _) _ _ _); refine tok_q (n := 1) (by (try dsimp only); omega) ?_; walk1; (all_goals (try (conv => arg 6; dsimp only)))) | ((with_reducible show wpAny _ _ (PySem.call (PySem.Value.builtin "str.replace") _) _ _ _); refine SC.replaceW (by (show @Ne Nat _ _); omega) (by (show @Ne Nat _ _); omega) (by (show @Ne Nat _ _); omega) (by decide +kernel) (by omega) (by decide +kernel) ?_; intro _ _; (try dsimp only); (try k_fold)) | ((with_reducible show (1 ≤ _) → _); intro htk; (try dsimp only at htk); (try dsimp only)) | ((with_reducible show wpAny _ _ (PySem.call (PySem.Value.ref 95) [PySem.Value.str _ _]) _ _ _); (rename Fr _ _ _ _ => FZ); (rename News _ _ _ _ => NZ); (rename Below _ _ _ _ => BZ); (rename Frag.In _ _ => XZ); (rename Top _ _ _ _ _ _ => TZ); refine' due_ctr w mean mg mb _ _ (slice_two _) _ _ _ _ _ _ _ _ _ _ _ _ _ _ _ _ _ _ BZ FZ XZ NZ TZ rfl (by ((try simp only [depth_under_make, depth_under_kw, depth_in1, depth_deeper, depth_caller]); (try dsimp only [ktrTop]); omega)) (by ((try simp only [units_in1, units_deeper, Around.mark_units, units_caller]); (try dsimp only [ktrTop]); omega)) ?_; intro _ _ _ _ _; (try dsimp only); (try k_fold)) | ((with_reducible show wpAny _ _ (PySem.call (PySem.Value.ref 74) [PySem.Value.str _ _]) _ _ _); (rename Fr _ _ _ _ => FZ); (rename News _ _ _ _ => NZ); (rename Below _ _ _ _ => BZ); (rename Frag.In _ _ => XZ); (rename Top _ _ _ _ _ _ => TZ); refine' figure_ctr w mean mg mb _ _ _ (by with_reducible assumption) _ _ _ _ _ _ _ _ _ _ _ _ _ _ _ _ _ _ BZ FZ XZ NZ TZ rfl (by ((try simp only [depth_under_make, depth_under_kw, depth_in1, depth_deeper, depth_caller]); (try dsimp only [ktrTop]); omega)) (by ((try simp only [units_in1, units_deeper, Around.mark_units, units_caller]); (try dsimp only [ktrTop]); omega)) ?_; intro _ _ _ _ _; (try dsimp only); (try k_fold)) | ((with_reducible show wpAny _ _ (PySem.call (PySem.Value.ref 51) [PySem.Value.str _ _]) _ _ _); (rename Fr _ _ _ _ => FZ); (rename News _ _ _ _ => NZ); (rename Below _ _ _ _ => BZ); (rename Frag.In _ _ => XZ); (rename Top _ _ _ _ _ _ => TZ); refine' decode_ctr w mean mg mb _ _ (by omega) _ _ _ _ _ _ _ _ _ _ _ _ _ _ _ _ _ _ BZ FZ XZ NZ TZ rfl (by ((try simp only [depth_under_make, depth_under_kw, depth_in1, depth_deeper, depth_caller]); (try dsimp only [ktrTop]); omega)) (by ((try simp only [units_in1, units_deeper, Around.mark_units, units_caller]); (try dsimp only [ktrTop]); omega)) ?_; intro _ _ _ _ _; (try dsimp only); (try k_fold)) | ((with_reducible show wpAny _ _ (PySem.call (PySem.Value.ref 65) [PySem.Value.str _ _]) _ _ _); (rename Fr _ _ _ _ => FZ); (rename News _ _ _ _ => NZ); (rename Below _ _ _ _ => BZ); (rename Frag.In _ _ => XZ); (rename Top _ _ _ _ _ _ => TZ); refine' header_ctr w mean mg mb _ _ (by omega) _ _ _ _ _ _ _ _ _ _ _ _ _ _ _ _ _ _ BZ FZ XZ NZ TZ rfl (by ((try simp only [depth_under_make, depth_under_kw, depth_in1, depth_deeper, depth_caller]); (try dsimp only [ktrTop]); omega)) (by ((try simp only [units_in1, units_deeper, Around.mark_units, units_caller]); (try dsimp only [ktrTop]); omega)) ?_; intro _ _ _ _ _; (try dsimp only); (try k_fold)) | ((fail_if_success (with_reducible show wpAny _ _ (PySem.exec (PySem.Stmt.While _ _ _ _) _) _ _ _)); (fail_if_success (with_reducible show wpAny _ _ (PySem.pyIter _) _ _ _)); (fail_if_success (with_reducible show wpAny _ _ (PySem.call (PySem.Value.ref _) _ _) _ _ _)); (fail_if_success (with_reducible show InvEndN _ _ _ _ _ _ _)); (fail_if_success (with_reducible show KswEnd _ _ _ _ _ _ _ _ _ _ _ _)); (first | (k_unfold; (try dsimp only)) | (k_end; wrow_close) | (walk1; (all_goals (try (conv => arg 6; dsimp only)))) | (dsimp only; walk1) | (leave1; try dsimp only) | fail "no step")))
      all_goals (try dsimp only)
      all_goals first
        | (exfalso; omega)
        | (exfalso; (have e : (true != decide (dueL (Txt.slice x (some 1) (some 3)).cps.toList < 0)) = true := by with_reducible assumption); rw [decide_eq_true hneg] at e; cases e)
        | (exfalso; (have e : (false != decide (dueL (Txt.slice x (some 1) (some 3)).cps.toList < 0)) = true := by with_reducible assumption); rw [decide_eq_false hneg] at e; cases e)
        | (exfalso; (have e : ((⟨#[(dueL (Txt.slice x (some 1) (some 3)).cps.toList).toNat]⟩ : Str) != ⟨#[(dueL (Txt.slice x (some 1) (some 3)).cps.toList).toNat]⟩) = true := by with_reducible assumption); simp at e; done)
        | (exfalso; (have e1 := fig_if hi0 (b := true) (by with_reducible assumption)); (have e2 := fig_if hi1 (b := true) (by with_reducible assumption)); exact hex_neg hsc hneg e1 e2)
        | (exfalso; (have e1 := fig_if hi0 (b := true) (by with_reducible assumption)); (have e2 := fig_if hi1 (b := true) (by with_reducible assumption)); (have e3 := first_eq hc (by with_reducible assumption)); exact bne_yes (ok.esc _ _ (e3 ▸ hc) e1 e2).1.symm (by with_reducible assumption))
        | (exfalso; (have e1 := fig_if hi0 (b := true) (by with_reducible assumption)); (have e2 := fig_if hi1 (b := true) (by with_reducible assumption)); (have e3 := first_eq hc (by with_reducible assumption)); exact bne_yes (ok.esc _ _ (e3 ▸ hc) e1 e2).2.symm (by with_reducible assumption))
        | (exfalso; (have e1 := fig_if hi0 (b := false) (by with_reducible assumption)); (have e3 := first_eq hc (by with_reducible assumption)); exact bne_yes (ok.noesc _ _ (e3 ▸ hc) (.inl e1)).1 (by with_reducible assumption))
        | (exfalso; (have e2 := fig_if hi1 (b := false) (by with_reducible assumption)); (have e3 := first_eq hc (by with_reducible assumption)); exact bne_yes (ok.noesc _ _ (e3 ▸ hc) (.inr e2)).1 (by with_reducible assumption))
        | ((with_reducible show LeaveS0 _ _ _ _ _ _ _ _)
           (rename Fr _ _ _ _ => FE); (rename News _ _ _ _ => NE)
           refine leaveS0_ FE NE KtsTurn.refl (fun FR NR => ret_b (hret 0 _ _ FR NR) ?_)
           (first
          | rfl
          | (rw [Bool.not_eq_true']; with_reducible assumption)
          | exact last_eq (ok.noesc _ _ ((first_eq hc (by with_reducible assumption)) ▸ hc) (.inl (fig_if hi0 (b := false) (by with_reducible assumption)))).2 (end_occ hi0 (by with_reducible assumption)) (end_occ hi1 (by with_reducible assumption))
          | exact last_eq (ok.noesc _ _ ((first_eq hc (by with_reducible assumption)) ▸ hc) (.inr (fig_if hi1 (b := false) (by with_reducible assumption)))).2 (end_occ hi0 (by with_reducible assumption)) (end_occ hi1 (by with_reducible assumption))))
  
  · by_cases hneg : dueL (Txt.slice x (some 1) (some 3)).cps.toList < 0
    · rcases ok.neg hneg with hn | ⟨n9, hn9, hn⟩
      · refine wpP_call ?_
        k_dflt (refine' codeP_defS ?k1 ?k2 ?k3 ?k4 ?k6 ?k7 ?k8 ?k9 ?kB ?_ ?kK ?c2 ?c3 ?c4 ?c5; (case kK => assumption); (case k1 => k_asm); (case k2 => k_asm); (case k3 => k_asm); (case k4 => k_asm); (case k6 => k_is); (case k7 => k_is); (case k8 => first | ktr_room | decide +kernel); (case k9 => first | exact BindsTo.of_eq rfl | exact binds_K (by k_in) rfl (by k_is) rfl rfl rfl); (case kB => exact locs rfl); (case c2 => exact rfl); (case c3 => exact rfl); (case c4 => exact rfl); (case c5 => decide); k_whole; intro g1 L1 h1 FG1 F1 N1 B1 X1 T1 D1 nL1; (try dsimp only); (try k_lift B1); (try k_fold))
        refine p_execs_later ?_
        repeat' ((fail_if_success (with_reducible show LeaveS0 _ _ _ _ _ _ _ _)); first | ((with_reducible show wpAny _ _ (PySem.execs (_ :: _) _) _ _ _); refine wpAny_execs_cons (tok_q (n := 1) (by (try dsimp only); (first | omega | (simp; done) | (simp; omega))) ?_); (try dsimp only)) | ((with_reducible show wpAny _ _ (PySem.eval (PySem.Expr.Call (PySem.Expr.Name (PySem.Str.ofString "header_decode") _) _ _ _) _) _ _ _); refine tok_q (n := 1) (by (try dsimp only); omega) ?_; walk1; (all_goals (try (conv => arg 6; dsimp only)))) | ((with_reducible show wpAny _ _ (PySem.call (PySem.Value.builtin "str.replace") _) _ _ _); refine SC.replaceW (by (show @Ne Nat _ _); omega) (by (show @Ne Nat _ _); omega) (by (show @Ne Nat _ _); omega) (by decide +kernel) (by omega) (by decide +kernel) ?_; intro _ _; (try dsimp only); (try k_fold)) | ((with_reducible show (1 ≤ _) → _); intro htk; (try dsimp only at htk); (try dsimp only)) | ((with_reducible show wpAny _ _ (PySem.call (PySem.Value.ref 95) [PySem.Value.str _ _]) _ _ _); (rename Fr _ _ _ _ => FZ); (rename News _ _ _ _ => NZ); (rename Below _ _ _ _ => BZ); (rename Frag.In _ _ => XZ); (rename Top _ _ _ _ _ _ => TZ); refine' due_ctr w mean mg mb _ _ (slice_two _) _ _ _ _ _ _ _ _ _ _ _ _ _ _ _ _ _ _ BZ FZ XZ NZ TZ rfl (by ((try simp only [depth_under_make, depth_under_kw, depth_in1, depth_deeper, depth_caller]); (try dsimp only [ktrTop]); omega)) (by ((try simp only [units_in1, units_deeper, Around.mark_units, units_caller]); (try dsimp only [ktrTop]); omega)) ?_; intro _ _ _ _ _; (try dsimp only); (try k_fold)) | ((with_reducible show wpAny _ _ (PySem.call (PySem.Value.ref 74) [PySem.Value.str _ _]) _ _ _); (rename Fr _ _ _ _ => FZ); (rename News _ _ _ _ => NZ); (rename Below _ _ _ _ => BZ); (rename Frag.In _ _ => XZ); (rename Top _ _ _ _ _ _ => TZ); refine' figure_ctr w mean mg mb _ _ _ (by with_reducible assumption) _ _ _ _ _ _ _ _ _ _ _ _ _ _ _ _ _ _ BZ FZ XZ NZ TZ rfl (by ((try simp only [depth_under_make, depth_under_kw, depth_in1, depth_deeper, depth_caller]); (try dsimp only [ktrTop]); omega)) (by ((try simp only [units_in1, units_deeper, Around.mark_units, units_caller]); (try dsimp only [ktrTop]); omega)) ?_; intro _ _ _ _ _; (try dsimp only); (try k_fold)) | ((with_reducible show wpAny _ _ (PySem.call (PySem.Value.ref 51) [PySem.Value.str _ _]) _ _ _); (rename Fr _ _ _ _ => FZ); (rename News _ _ _ _ => NZ); (rename Below _ _ _ _ => BZ); (rename Frag.In _ _ => XZ); (rename Top _ _ _ _ _ _ => TZ); refine' decode_ctr w mean mg mb _ _ (by omega) _ _ _ _ _ _ _ _ _ _ _ _ _ _ _ _ _ _ BZ FZ XZ NZ TZ rfl (by ((try simp only [depth_under_make, depth_under_kw, depth_in1, depth_deeper, depth_caller]); (try dsimp only [ktrTop]); omega)) (by ((try simp only [units_in1, units_deeper, Around.mark_units, units_caller]); (try dsimp only [ktrTop]); omega)) ?_; intro _ _ _ _ _; (try dsimp only); (try k_fold)) | ((with_reducible show wpAny _ _ (PySem.call (PySem.Value.ref 65) [PySem.Value.str _ _]) _ _ _); (rename Fr _ _ _ _ => FZ); (rename News _ _ _ _ => NZ); (rename Below _ _ _ _ => BZ); (rename Frag.In _ _ => XZ); (rename Top _ _ _ _ _ _ => TZ); refine' header_ctr w mean mg mb _ _ (by omega) _ _ _ _ _ _ _ _ _ _ _ _ _ _ _ _ _ _ BZ FZ XZ NZ TZ rfl (by ((try simp only [depth_under_make, depth_under_kw, depth_in1, depth_deeper, depth_caller]); (try dsimp only [ktrTop]); omega)) (by ((try simp only [units_in1, units_deeper, Around.mark_units, units_caller]); (try dsimp only [ktrTop]); omega)) ?_; intro _ _ _ _ _; (try dsimp only); (try k_fold)) | ((fail_if_success (with_reducible show wpAny _ _ (PySem.exec (PySem.Stmt.While _ _ _ _) _) _ _ _)); (fail_if_success (with_reducible show wpAny _ _ (PySem.pyIter _) _ _ _)); (fail_if_success (with_reducible show wpAny _ _ (PySem.call (PySem.Value.ref _) _ _) _ _ _)); (fail_if_success (with_reducible show InvEndN _ _ _ _ _ _ _)); (fail_if_success (with_reducible show KswEnd _ _ _ _ _ _ _ _ _ _ _ _)); (first | (k_unfold; (try dsimp only)) | (k_end; wrow_close) | (walk1; (all_goals (try (conv => arg 6; dsimp only)))) | (dsimp only; walk1) | (leave1; try dsimp only) | fail "no step")))
        refine p_execs (p_Try (p_execs (p_Assign_Name (p_Call_Name ?_))))
        repeat' ((fail_if_success (with_reducible show LeaveS0 _ _ _ _ _ _ _ _)); first | ((with_reducible show wpAny _ _ (PySem.execs (_ :: _) _) _ _ _); refine wpAny_execs_cons (tok_q (n := 1) (by (try dsimp only); (first | omega | (simp; done) | (simp; omega))) ?_); (try dsimp only)) | ((with_reducible show wpAny _ _ (PySem.eval (PySem.Expr.Call (PySem.Expr.Name (PySem.Str.ofString "header_decode") _) _ _ _) _) _ _ _); refine tok_q (n := 1) (by (try dsimp only); omega) ?_; walk1; (all_goals (try (conv => arg 6; dsimp only)))) | ((with_reducible show wpAny _ _ (PySem.call (PySem.Value.builtin "str.replace") _) _ _ _); refine SC.replaceW (by (show @Ne Nat _ _); omega) (by (show @Ne Nat _ _); omega) (by (show @Ne Nat _ _); omega) (by decide +kernel) (by omega) (by decide +kernel) ?_; intro _ _; (try dsimp only); (try k_fold)) | ((with_reducible show (1 ≤ _) → _); intro htk; (try dsimp only at htk); (try dsimp only)) | ((with_reducible show wpAny _ _ (PySem.call (PySem.Value.ref 95) [PySem.Value.str _ _]) _ _ _); (rename Fr _ _ _ _ => FZ); (rename News _ _ _ _ => NZ); (rename Below _ _ _ _ => BZ); (rename Frag.In _ _ => XZ); (rename Top _ _ _ _ _ _ => TZ); refine' due_ctr w mean mg mb _ _ (slice_two _) _ _ _ _ _ _ _ _ _ _ _ _ _ _ _ _ _ _ BZ FZ XZ NZ TZ rfl (by ((try simp only [depth_under_make, depth_under_kw, depth_in1, depth_deeper, depth_caller]); (try dsimp only [ktrTop]); omega)) (by ((try simp only [units_in1, units_deeper, Around.mark_units, units_caller]); (try dsimp only [ktrTop]); omega)) ?_; intro _ _ _ _ _; (try dsimp only); (try k_fold)) | ((with_reducible show wpAny _ _ (PySem.call (PySem.Value.ref 74) [PySem.Value.str _ _]) _ _ _); (rename Fr _ _ _ _ => FZ); (rename News _ _ _ _ => NZ); (rename Below _ _ _ _ => BZ); (rename Frag.In _ _ => XZ); (rename Top _ _ _ _ _ _ => TZ); refine' figure_ctr w mean mg mb _ _ _ (by with_reducible assumption) _ _ _ _ _ _ _ _ _ _ _ _ _ _ _ _ _ _ BZ FZ XZ NZ TZ rfl (by ((try simp only [depth_under_make, depth_under_kw, depth_in1, depth_deeper, depth_caller]); (try dsimp only [ktrTop]); omega)) (by ((try simp only [units_in1, units_deeper, Around.mark_units, units_caller]); (try dsimp only [ktrTop]); omega)) ?_; intro _ _ _ _ _; (try dsimp only); (try k_fold)) | ((with_reducible show wpAny _ _ (PySem.call (PySem.Value.ref 51) [PySem.Value.str _ _]) _ _ _); (rename Fr _ _ _ _ => FZ); (rename News _ _ _ _ => NZ); (rename Below _ _ _ _ => BZ); (rename Frag.In _ _ => XZ); (rename Top _ _ _ _ _ _ => TZ); refine' decode_ctr w mean mg mb _ _ (by omega) _ _ _ _ _ _ _ _ _ _ _ _ _ _ _ _ _ _ BZ FZ XZ NZ TZ rfl (by ((try simp only [depth_under_make, depth_under_kw, depth_in1, depth_deeper, depth_caller]); (try dsimp only [ktrTop]); omega)) (by ((try simp only [units_in1, units_deeper, Around.mark_units, units_caller]); (try dsimp only [ktrTop]); omega)) ?_; intro _ _ _ _ _; (try dsimp only); (try k_fold)) | ((with_reducible show wpAny _ _ (PySem.call (PySem.Value.ref 65) [PySem.Value.str _ _]) _ _ _); (rename Fr _ _ _ _ => FZ); (rename News _ _ _ _ => NZ); (rename Below _ _ _ _ => BZ); (rename Frag.In _ _ => XZ); (rename Top _ _ _ _ _ _ => TZ); refine' header_ctr w mean mg mb _ _ (by omega) _ _ _ _ _ _ _ _ _ _ _ _ _ _ _ _ _ _ BZ FZ XZ NZ TZ rfl (by ((try simp only [depth_under_make, depth_under_kw, depth_in1, depth_deeper, depth_caller]); (try dsimp only [ktrTop]); omega)) (by ((try simp only [units_in1, units_deeper, Around.mark_units, units_caller]); (try dsimp only [ktrTop]); omega)) ?_; intro _ _ _ _ _; (try dsimp only); (try k_fold)) | ((fail_if_success (with_reducible show wpAny _ _ (PySem.exec (PySem.Stmt.While _ _ _ _) _) _ _ _)); (fail_if_success (with_reducible show wpAny _ _ (PySem.pyIter _) _ _ _)); (fail_if_success (with_reducible show wpAny _ _ (PySem.call (PySem.Value.ref _) _ _) _ _ _)); (fail_if_success (with_reducible show InvEndN _ _ _ _ _ _ _)); (fail_if_success (with_reducible show KswEnd _ _ _ _ _ _ _ _ _ _ _ _)); (first | (k_unfold; (try dsimp only)) | (k_end; wrow_close) | (walk1; (all_goals (try (conv => arg 6; dsimp only)))) | (dsimp only; walk1) | (leave1; try dsimp only) | fail "no step")))
        refine p_cw_def (K := K9 w.params) (by k_is) (p_sp_one (wpP_of ?_))
        repeat' ((fail_if_success (with_reducible show LeaveS0 _ _ _ _ _ _ _ _)); first | ((with_reducible show wpAny _ _ (PySem.execs (_ :: _) _) _ _ _); refine wpAny_execs_cons (tok_q (n := 1) (by (try dsimp only); (first | omega | (simp; done) | (simp; omega))) ?_); (try dsimp only)) | ((with_reducible show wpAny _ _ (PySem.eval (PySem.Expr.Call (PySem.Expr.Name (PySem.Str.ofString "header_decode") _) _ _ _) _) _ _ _); refine tok_q (n := 1) (by (try dsimp only); omega) ?_; walk1; (all_goals (try (conv => arg 6; dsimp only)))) | ((with_reducible show wpAny _ _ (PySem.call (PySem.Value.builtin "str.replace") _) _ _ _); refine SC.replaceW (by (show @Ne Nat _ _); omega) (by (show @Ne Nat _ _); omega) (by (show @Ne Nat _ _); omega) (by decide +kernel) (by omega) (by decide +kernel) ?_; intro _ _; (try dsimp only); (try k_fold)) | ((with_reducible show (1 ≤ _) → _); intro htk; (try dsimp only at htk); (try dsimp only)) | ((with_reducible show wpAny _ _ (PySem.call (PySem.Value.ref 95) [PySem.Value.str _ _]) _ _ _); (rename Fr _ _ _ _ => FZ); (rename News _ _ _ _ => NZ); (rename Below _ _ _ _ => BZ); (rename Frag.In _ _ => XZ); (rename Top _ _ _ _ _ _ => TZ); refine' due_ctr w mean mg mb _ _ (slice_two _) _ _ _ _ _ _ _ _ _ _ _ _ _ _ _ _ _ _ BZ FZ XZ NZ TZ rfl (by ((try simp only [depth_under_make, depth_under_kw, depth_in1, depth_deeper, depth_caller]); (try dsimp only [ktrTop]); omega)) (by ((try simp only [units_in1, units_deeper, Around.mark_units, units_caller]); (try dsimp only [ktrTop]); omega)) ?_; intro _ _ _ _ _; (try dsimp only); (try k_fold)) | ((with_reducible show wpAny _ _ (PySem.call (PySem.Value.ref 74) [PySem.Value.str _ _]) _ _ _); (rename Fr _ _ _ _ => FZ); (rename News _ _ _ _ => NZ); (rename Below _ _ _ _ => BZ); (rename Frag.In _ _ => XZ); (rename Top _ _ _ _ _ _ => TZ); refine' figure_ctr w mean mg mb _ _ _ (by with_reducible assumption) _ _ _ _ _ _ _ _ _ _ _ _ _ _ _ _ _ _ BZ FZ XZ NZ TZ rfl (by ((try simp only [depth_under_make, depth_under_kw, depth_in1, depth_deeper, depth_caller]); (try dsimp only [ktrTop]); omega)) (by ((try simp only [units_in1, units_deeper, Around.mark_units, units_caller]); (try dsimp only [ktrTop]); omega)) ?_; intro _ _ _ _ _; (try dsimp only); (try k_fold)) | ((with_reducible show wpAny _ _ (PySem.call (PySem.Value.ref 51) [PySem.Value.str _ _]) _ _ _); (rename Fr _ _ _ _ => FZ); (rename News _ _ _ _ => NZ); (rename Below _ _ _ _ => BZ); (rename Frag.In _ _ => XZ); (rename Top _ _ _ _ _ _ => TZ); refine' decode_ctr w mean mg mb _ _ (by omega) _ _ _ _ _ _ _ _ _ _ _ _ _ _ _ _ _ _ BZ FZ XZ NZ TZ rfl (by ((try simp only [depth_under_make, depth_under_kw, depth_in1, depth_deeper, depth_caller]); (try dsimp only [ktrTop]); omega)) (by ((try simp only [units_in1, units_deeper, Around.mark_units, units_caller]); (try dsimp only [ktrTop]); omega)) ?_; intro _ _ _ _ _; (try dsimp only); (try k_fold)) | ((with_reducible show wpAny _ _ (PySem.call (PySem.Value.ref 65) [PySem.Value.str _ _]) _ _ _); (rename Fr _ _ _ _ => FZ); (rename News _ _ _ _ => NZ); (rename Below _ _ _ _ => BZ); (rename Frag.In _ _ => XZ); (rename Top _ _ _ _ _ _ => TZ); refine' header_ctr w mean mg mb _ _ (by omega) _ _ _ _ _ _ _ _ _ _ _ _ _ _ _ _ _ _ BZ FZ XZ NZ TZ rfl (by ((try simp only [depth_under_make, depth_under_kw, depth_in1, depth_deeper, depth_caller]); (try dsimp only [ktrTop]); omega)) (by ((try simp only [units_in1, units_deeper, Around.mark_units, units_caller]); (try dsimp only [ktrTop]); omega)) ?_; intro _ _ _ _ _; (try dsimp only); (try k_fold)) | ((fail_if_success (with_reducible show wpAny _ _ (PySem.exec (PySem.Stmt.While _ _ _ _) _) _ _ _)); (fail_if_success (with_reducible show wpAny _ _ (PySem.pyIter _) _ _ _)); (fail_if_success (with_reducible show wpAny _ _ (PySem.call (PySem.Value.ref _) _ _) _ _ _)); (fail_if_success (with_reducible show InvEndN _ _ _ _ _ _ _)); (fail_if_success (with_reducible show KswEnd _ _ _ _ _ _ _ _ _ _ _ _)); (first | (k_unfold; (try dsimp only)) | (k_end; wrow_close) | (walk1; (all_goals (try (conv => arg 6; dsimp only)))) | (dsimp only; walk1) | (leave1; try dsimp only) | fail "no step")))
        refine wpP_call ?_
        k_dflt (refine' codeP_def_raises ?k1 ?k2 ?k3 ?k4 ?k5 ?kA ?k6 ?k7 ?k8 ?k9 ?kB ?_ ?kK ?c2 ?c3 ?c4 ?c5; (case kA => exact rfl); (case kK => exact rfl); (case k1 => k_asm); (case k2 => k_asm); (case k3 => k_asm); (case k4 => k_asm); (case k5 => k_asm); (case k6 => k_is); (case k7 => k_is); (case k8 => ktr_room); (case k9 => first | exact BindsTo.of_eq rfl | exact binds_K (by k_in) rfl (by k_is) rfl rfl rfl); (case kB => exact locs rfl); (case c2 => exact rfl); (case c3 => exact rfl); (case c4 => exact rfl); (case c5 => decide); k_whole; intro g2 L2 h2 FG2 F2 N2 B2 X2 T2; (try dsimp only); (try k_lift B2); (try k_fold))
        refine p_execs (p_Return (p_Call_Name ?_))
        repeat' ((fail_if_success (with_reducible show LeaveS0 _ _ _ _ _ _ _ _)); first | ((with_reducible show wpAny _ _ (PySem.execs (_ :: _) _) _ _ _); refine wpAny_execs_cons (tok_q (n := 1) (by (try dsimp only); (first | omega | (simp; done) | (simp; omega))) ?_); (try dsimp only)) | ((with_reducible show wpAny _ _ (PySem.eval (PySem.Expr.Call (PySem.Expr.Name (PySem.Str.ofString "header_decode") _) _ _ _) _) _ _ _); refine tok_q (n := 1) (by (try dsimp only); omega) ?_; walk1; (all_goals (try (conv => arg 6; dsimp only)))) | ((with_reducible show wpAny _ _ (PySem.call (PySem.Value.builtin "str.replace") _) _ _ _); refine SC.replaceW (by (show @Ne Nat _ _); omega) (by (show @Ne Nat _ _); omega) (by (show @Ne Nat _ _); omega) (by decide +kernel) (by omega) (by decide +kernel) ?_; intro _ _; (try dsimp only); (try k_fold)) | ((with_reducible show (1 ≤ _) → _); intro htk; (try dsimp only at htk); (try dsimp only)) | ((with_reducible show wpAny _ _ (PySem.call (PySem.Value.ref 95) [PySem.Value.str _ _]) _ _ _); (rename Fr _ _ _ _ => FZ); (rename News _ _ _ _ => NZ); (rename Below _ _ _ _ => BZ); (rename Frag.In _ _ => XZ); (rename Top _ _ _ _ _ _ => TZ); refine' due_ctr w mean mg mb _ _ (slice_two _) _ _ _ _ _ _ _ _ _ _ _ _ _ _ _ _ _ _ BZ FZ XZ NZ TZ rfl (by ((try simp only [depth_under_make, depth_under_kw, depth_in1, depth_deeper, depth_caller]); (try dsimp only [ktrTop]); omega)) (by ((try simp only [units_in1, units_deeper, Around.mark_units, units_caller]); (try dsimp only [ktrTop]); omega)) ?_; intro _ _ _ _ _; (try dsimp only); (try k_fold)) | ((with_reducible show wpAny _ _ (PySem.call (PySem.Value.ref 74) [PySem.Value.str _ _]) _ _ _); (rename Fr _ _ _ _ => FZ); (rename News _ _ _ _ => NZ); (rename Below _ _ _ _ => BZ); (rename Frag.In _ _ => XZ); (rename Top _ _ _ _ _ _ => TZ); refine' figure_ctr w mean mg mb _ _ _ (by with_reducible assumption) _ _ _ _ _ _ _ _ _ _ _ _ _ _ _ _ _ _ BZ FZ XZ NZ TZ rfl (by ((try simp only [depth_under_make, depth_under_kw, depth_in1, depth_deeper, depth_caller]); (try dsimp only [ktrTop]); omega)) (by ((try simp only [units_in1, units_deeper, Around.mark_units, units_caller]); (try dsimp only [ktrTop]); omega)) ?_; intro _ _ _ _ _; (try dsimp only); (try k_fold)) | ((with_reducible show wpAny _ _ (PySem.call (PySem.Value.ref 51) [PySem.Value.str _ _]) _ _ _); (rename Fr _ _ _ _ => FZ); (rename News _ _ _ _ => NZ); (rename Below _ _ _ _ => BZ); (rename Frag.In _ _ => XZ); (rename Top _ _ _ _ _ _ => TZ); refine' decode_ctr w mean mg mb _ _ (by omega) _ _ _ _ _ _ _ _ _ _ _ _ _ _ _ _ _ _ BZ FZ XZ NZ TZ rfl (by ((try simp only [depth_under_make, depth_under_kw, depth_in1, depth_deeper, depth_caller]); (try dsimp only [ktrTop]); omega)) (by ((try simp only [units_in1, units_deeper, Around.mark_units, units_caller]); (try dsimp only [ktrTop]); omega)) ?_; intro _ _ _ _ _; (try dsimp only); (try k_fold)) | ((with_reducible show wpAny _ _ (PySem.call (PySem.Value.ref 65) [PySem.Value.str _ _]) _ _ _); (rename Fr _ _ _ _ => FZ); (rename News _ _ _ _ => NZ); (rename Below _ _ _ _ => BZ); (rename Frag.In _ _ => XZ); (rename Top _ _ _ _ _ _ => TZ); refine' header_ctr w mean mg mb _ _ (by omega) _ _ _ _ _ _ _ _ _ _ _ _ _ _ _ _ _ _ BZ FZ XZ NZ TZ rfl (by ((try simp only [depth_under_make, depth_under_kw, depth_in1, depth_deeper, depth_caller]); (try dsimp only [ktrTop]); omega)) (by ((try simp only [units_in1, units_deeper, Around.mark_units, units_caller]); (try dsimp only [ktrTop]); omega)) ?_; intro _ _ _ _ _; (try dsimp only); (try k_fold)) | ((fail_if_success (with_reducible show wpAny _ _ (PySem.exec (PySem.Stmt.While _ _ _ _) _) _ _ _)); (fail_if_success (with_reducible show wpAny _ _ (PySem.pyIter _) _ _ _)); (fail_if_success (with_reducible show wpAny _ _ (PySem.call (PySem.Value.ref _) _ _) _ _ _)); (fail_if_success (with_reducible show InvEndN _ _ _ _ _ _ _)); (fail_if_success (with_reducible show KswEnd _ _ _ _ _ _ _ _ _ _ _ _)); (first | (k_unfold; (try dsimp only)) | (k_end; wrow_close) | (walk1; (all_goals (try (conv => arg 6; dsimp only)))) | (dsimp only; walk1) | (leave1; try dsimp only) | fail "no step")))
        refine p_cw_builtin (p_sp_one (p_Call_Name ?_))
        repeat' ((fail_if_success (with_reducible show LeaveS0 _ _ _ _ _ _ _ _)); first | ((with_reducible show wpAny _ _ (PySem.execs (_ :: _) _) _ _ _); refine wpAny_execs_cons (tok_q (n := 1) (by (try dsimp only); (first | omega | (simp; done) | (simp; omega))) ?_); (try dsimp only)) | ((with_reducible show wpAny _ _ (PySem.eval (PySem.Expr.Call (PySem.Expr.Name (PySem.Str.ofString "header_decode") _) _ _ _) _) _ _ _); refine tok_q (n := 1) (by (try dsimp only); omega) ?_; walk1; (all_goals (try (conv => arg 6; dsimp only)))) | ((with_reducible show wpAny _ _ (PySem.call (PySem.Value.builtin "str.replace") _) _ _ _); refine SC.replaceW (by (show @Ne Nat _ _); omega) (by (show @Ne Nat _ _); omega) (by (show @Ne Nat _ _); omega) (by decide +kernel) (by omega) (by decide +kernel) ?_; intro _ _; (try dsimp only); (try k_fold)) | ((with_reducible show (1 ≤ _) → _); intro htk; (try dsimp only at htk); (try dsimp only)) | ((with_reducible show wpAny _ _ (PySem.call (PySem.Value.ref 95) [PySem.Value.str _ _]) _ _ _); (rename Fr _ _ _ _ => FZ); (rename News _ _ _ _ => NZ); (rename Below _ _ _ _ => BZ); (rename Frag.In _ _ => XZ); (rename Top _ _ _ _ _ _ => TZ); refine' due_ctr w mean mg mb _ _ (slice_two _) _ _ _ _ _ _ _ _ _ _ _ _ _ _ _ _ _ _ BZ FZ XZ NZ TZ rfl (by ((try simp only [depth_under_make, depth_under_kw, depth_in1, depth_deeper, depth_caller]); (try dsimp only [ktrTop]); omega)) (by ((try simp only [units_in1, units_deeper, Around.mark_units, units_caller]); (try dsimp only [ktrTop]); omega)) ?_; intro _ _ _ _ _; (try dsimp only); (try k_fold)) | ((with_reducible show wpAny _ _ (PySem.call (PySem.Value.ref 74) [PySem.Value.str _ _]) _ _ _); (rename Fr _ _ _ _ => FZ); (rename News _ _ _ _ => NZ); (rename Below _ _ _ _ => BZ); (rename Frag.In _ _ => XZ); (rename Top _ _ _ _ _ _ => TZ); refine' figure_ctr w mean mg mb _ _ _ (by with_reducible assumption) _ _ _ _ _ _ _ _ _ _ _ _ _ _ _ _ _ _ BZ FZ XZ NZ TZ rfl (by ((try simp only [depth_under_make, depth_under_kw, depth_in1, depth_deeper, depth_caller]); (try dsimp only [ktrTop]); omega)) (by ((try simp only [units_in1, units_deeper, Around.mark_units, units_caller]); (try dsimp only [ktrTop]); omega)) ?_; intro _ _ _ _ _; (try dsimp only); (try k_fold)) | ((with_reducible show wpAny _ _ (PySem.call (PySem.Value.ref 51) [PySem.Value.str _ _]) _ _ _); (rename Fr _ _ _ _ => FZ); (rename News _ _ _ _ => NZ); (rename Below _ _ _ _ => BZ); (rename Frag.In _ _ => XZ); (rename Top _ _ _ _ _ _ => TZ); refine' decode_ctr w mean mg mb _ _ (by omega) _ _ _ _ _ _ _ _ _ _ _ _ _ _ _ _ _ _ BZ FZ XZ NZ TZ rfl (by ((try simp only [depth_under_make, depth_under_kw, depth_in1, depth_deeper, depth_caller]); (try dsimp only [ktrTop]); omega)) (by ((try simp only [units_in1, units_deeper, Around.mark_units, units_caller]); (try dsimp only [ktrTop]); omega)) ?_; intro _ _ _ _ _; (try dsimp only); (try k_fold)) | ((with_reducible show wpAny _ _ (PySem.call (PySem.Value.ref 65) [PySem.Value.str _ _]) _ _ _); (rename Fr _ _ _ _ => FZ); (rename News _ _ _ _ => NZ); (rename Below _ _ _ _ => BZ); (rename Frag.In _ _ => XZ); (rename Top _ _ _ _ _ _ => TZ); refine' header_ctr w mean mg mb _ _ (by omega) _ _ _ _ _ _ _ _ _ _ _ _ _ _ _ _ _ _ BZ FZ XZ NZ TZ rfl (by ((try simp only [depth_under_make, depth_under_kw, depth_in1, depth_deeper, depth_caller]); (try dsimp only [ktrTop]); omega)) (by ((try simp only [units_in1, units_deeper, Around.mark_units, units_caller]); (try dsimp only [ktrTop]); omega)) ?_; intro _ _ _ _ _; (try dsimp only); (try k_fold)) | ((fail_if_success (with_reducible show wpAny _ _ (PySem.exec (PySem.Stmt.While _ _ _ _) _) _ _ _)); (fail_if_success (with_reducible show wpAny _ _ (PySem.pyIter _) _ _ _)); (fail_if_success (with_reducible show wpAny _ _ (PySem.call (PySem.Value.ref _) _ _) _ _ _)); (fail_if_success (with_reducible show InvEndN _ _ _ _ _ _ _)); (fail_if_success (with_reducible show KswEnd _ _ _ _ _ _ _ _ _ _ _ _)); (first | (k_unfold; (try dsimp only)) | (k_end; wrow_close) | (walk1; (all_goals (try (conv => arg 6; dsimp only)))) | (dsimp only; walk1) | (leave1; try dsimp only) | fail "no step")))
        refine p_cw_type (wpP_of ?_)
        repeat' ((fail_if_success (with_reducible show LeaveS0 _ _ _ _ _ _ _ _)); first | ((with_reducible show wpAny _ _ (PySem.execs (_ :: _) _) _ _ _); refine wpAny_execs_cons (tok_q (n := 1) (by (try dsimp only); (first | omega | (simp; done) | (simp; omega))) ?_); (try dsimp only)) | ((with_reducible show wpAny _ _ (PySem.eval (PySem.Expr.Call (PySem.Expr.Name (PySem.Str.ofString "header_decode") _) _ _ _) _) _ _ _); refine tok_q (n := 1) (by (try dsimp only); omega) ?_; walk1; (all_goals (try (conv => arg 6; dsimp only)))) | ((with_reducible show wpAny _ _ (PySem.call (PySem.Value.builtin "str.replace") _) _ _ _); refine SC.replaceW (by (show @Ne Nat _ _); omega) (by (show @Ne Nat _ _); omega) (by (show @Ne Nat _ _); omega) (by decide +kernel) (by omega) (by decide +kernel) ?_; intro _ _; (try dsimp only); (try k_fold)) | ((with_reducible show (1 ≤ _) → _); intro htk; (try dsimp only at htk); (try dsimp only)) | ((with_reducible show wpAny _ _ (PySem.call (PySem.Value.ref 95) [PySem.Value.str _ _]) _ _ _); (rename Fr _ _ _ _ => FZ); (rename News _ _ _ _ => NZ); (rename Below _ _ _ _ => BZ); (rename Frag.In _ _ => XZ); (rename Top _ _ _ _ _ _ => TZ); refine' due_ctr w mean mg mb _ _ (slice_two _) _ _ _ _ _ _ _ _ _ _ _ _ _ _ _ _ _ _ BZ FZ XZ NZ TZ rfl (by ((try simp only [depth_under_make, depth_under_kw, depth_in1, depth_deeper, depth_caller]); (try dsimp only [ktrTop]); omega)) (by ((try simp only [units_in1, units_deeper, Around.mark_units, units_caller]); (try dsimp only [ktrTop]); omega)) ?_; intro _ _ _ _ _; (try dsimp only); (try k_fold)) | ((with_reducible show wpAny _ _ (PySem.call (PySem.Value.ref 74) [PySem.Value.str _ _]) _ _ _); (rename Fr _ _ _ _ => FZ); (rename News _ _ _ _ => NZ); (rename Below _ _ _ _ => BZ); (rename Frag.In _ _ => XZ); (rename Top _ _ _ _ _ _ => TZ); refine' figure_ctr w mean mg mb _ _ _ (by with_reducible assumption) _ _ _ _ _ _ _ _ _ _ _ _ _ _ _ _ _ _ BZ FZ XZ NZ TZ rfl (by ((try simp only [depth_under_make, depth_under_kw, depth_in1, depth_deeper, depth_caller]); (try dsimp only [ktrTop]); omega)) (by ((try simp only [units_in1, units_deeper, Around.mark_units, units_caller]); (try dsimp only [ktrTop]); omega)) ?_; intro _ _ _ _ _; (try dsimp only); (try k_fold)) | ((with_reducible show wpAny _ _ (PySem.call (PySem.Value.ref 51) [PySem.Value.str _ _]) _ _ _); (rename Fr _ _ _ _ => FZ); (rename News _ _ _ _ => NZ); (rename Below _ _ _ _ => BZ); (rename Frag.In _ _ => XZ); (rename Top _ _ _ _ _ _ => TZ); refine' decode_ctr w mean mg mb _ _ (by omega) _ _ _ _ _ _ _ _ _ _ _ _ _ _ _ _ _ _ BZ FZ XZ NZ TZ rfl (by ((try simp only [depth_under_make, depth_under_kw, depth_in1, depth_deeper, depth_caller]); (try dsimp only [ktrTop]); omega)) (by ((try simp only [units_in1, units_deeper, Around.mark_units, units_caller]); (try dsimp only [ktrTop]); omega)) ?_; intro _ _ _ _ _; (try dsimp only); (try k_fold)) | ((with_reducible show wpAny _ _ (PySem.call (PySem.Value.ref 65) [PySem.Value.str _ _]) _ _ _); (rename Fr _ _ _ _ => FZ); (rename News _ _ _ _ => NZ); (rename Below _ _ _ _ => BZ); (rename Frag.In _ _ => XZ); (rename Top _ _ _ _ _ _ => TZ); refine' header_ctr w mean mg mb _ _ (by omega) _ _ _ _ _ _ _ _ _ _ _ _ _ _ _ _ _ _ BZ FZ XZ NZ TZ rfl (by ((try simp only [depth_under_make, depth_under_kw, depth_in1, depth_deeper, depth_caller]); (try dsimp only [ktrTop]); omega)) (by ((try simp only [units_in1, units_deeper, Around.mark_units, units_caller]); (try dsimp only [ktrTop]); omega)) ?_; intro _ _ _ _ _; (try dsimp only); (try k_fold)) | ((fail_if_success (with_reducible show wpAny _ _ (PySem.exec (PySem.Stmt.While _ _ _ _) _) _ _ _)); (fail_if_success (with_reducible show wpAny _ _ (PySem.pyIter _) _ _ _)); (fail_if_success (with_reducible show wpAny _ _ (PySem.call (PySem.Value.ref _) _ _) _ _ _)); (fail_if_success (with_reducible show InvEndN _ _ _ _ _ _ _)); (fail_if_success (with_reducible show KswEnd _ _ _ _ _ _ _ _ _ _ _ _)); (first | (k_unfold; (try dsimp only)) | (k_end; wrow_close) | (walk1; (all_goals (try (conv => arg 6; dsimp only)))) | (dsimp only; walk1) | (leave1; try dsimp only) | fail "no step")))
        (rename Fr _ _ _ _ => F3); (rename News _ _ _ _ => N3)
        refine p_int16_none hn ok.asc rfl ?_
        intro hpe e vs tke hM
        (try dsimp only)
        refine leave_raiseS (base := h₀) (g := g2) B2 hM.of F3 N3 ?_
        intro he2 te RS RK hsm
        (try dsimp only)
        refine caught_S0 (T' := "ValueError") RS FG2 BZ hsm X T D1 KtsTurn.refl ?ex PyProof.Rows.Boot.«ValueError» (by decide) PySem.F.isExc_ValueError PySem.F.notTuple_ValueError ?hs ?_
        case ex => k_is
        case hs => kts_sub
        intro he3 g3 n3 T3 F4 N4 G4 N5 B4 X4 P4 D4
        clear N4 G4 RS RK hsm hM B2 X2 T2 F3 N3 FG2
        (try dsimp only at F4)
        (try k_lift B4)
        (try dsimp only)
        (try k_fold)
        repeat' ((fail_if_success (with_reducible show LeaveS0 _ _ _ _ _ _ _ _)); first | ((with_reducible show wpAny _ _ (PySem.execs (_ :: _) _) _ _ _); refine wpAny_execs_cons (tok_q (n := 1) (by (try dsimp only); (first | omega | (simp; done) | (simp; omega))) ?_); (try dsimp only)) | ((with_reducible show wpAny _ _ (PySem.eval (PySem.Expr.Call (PySem.Expr.Name (PySem.Str.ofString "header_decode") _) _ _ _) _) _ _ _); refine tok_q (n := 1) (by (try dsimp only); omega) ?_; walk1; (all_goals (try (conv => arg 6; dsimp only)))) | ((with_reducible show wpAny _ _ (PySem.call (PySem.Value.builtin "str.replace") _) _ _ _); refine SC.replaceW (by (show @Ne Nat _ _); omega) (by (show @Ne Nat _ _); omega) (by (show @Ne Nat _ _); omega) (by decide +kernel) (by omega) (by decide +kernel) ?_; intro _ _; (try dsimp only); (try k_fold)) | ((with_reducible show (1 ≤ _) → _); intro htk; (try dsimp only at htk); (try dsimp only)) | ((with_reducible show wpAny _ _ (PySem.call (PySem.Value.ref 95) [PySem.Value.str _ _]) _ _ _); (rename Fr _ _ _ _ => FZ); (rename News _ _ _ _ => NZ); (rename Below _ _ _ _ => BZ); (rename Frag.In _ _ => XZ); (rename Top _ _ _ _ _ _ => TZ); refine' due_ctr w mean mg mb _ _ (slice_two _) _ _ _ _ _ _ _ _ _ _ _ _ _ _ _ _ _ _ BZ FZ XZ NZ TZ rfl (by ((try simp only [depth_under_make, depth_under_kw, depth_in1, depth_deeper, depth_caller]); (try dsimp only [ktrTop]); omega)) (by ((try simp only [units_in1, units_deeper, Around.mark_units, units_caller]); (try dsimp only [ktrTop]); omega)) ?_; intro _ _ _ _ _; (try dsimp only); (try k_fold)) | ((with_reducible show wpAny _ _ (PySem.call (PySem.Value.ref 74) [PySem.Value.str _ _]) _ _ _); (rename Fr _ _ _ _ => FZ); (rename News _ _ _ _ => NZ); (rename Below _ _ _ _ => BZ); (rename Frag.In _ _ => XZ); (rename Top _ _ _ _ _ _ => TZ); refine' figure_ctr w mean mg mb _ _ _ (by with_reducible assumption) _ _ _ _ _ _ _ _ _ _ _ _ _ _ _ _ _ _ BZ FZ XZ NZ TZ rfl (by ((try simp only [depth_under_make, depth_under_kw, depth_in1, depth_deeper, depth_caller]); (try dsimp only [ktrTop]); omega)) (by ((try simp only [units_in1, units_deeper, Around.mark_units, units_caller]); (try dsimp only [ktrTop]); omega)) ?_; intro _ _ _ _ _; (try dsimp only); (try k_fold)) | ((with_reducible show wpAny _ _ (PySem.call (PySem.Value.ref 51) [PySem.Value.str _ _]) _ _ _); (rename Fr _ _ _ _ => FZ); (rename News _ _ _ _ => NZ); (rename Below _ _ _ _ => BZ); (rename Frag.In _ _ => XZ); (rename Top _ _ _ _ _ _ => TZ); refine' decode_ctr w mean mg mb _ _ (by omega) _ _ _ _ _ _ _ _ _ _ _ _ _ _ _ _ _ _ BZ FZ XZ NZ TZ rfl (by ((try simp only [depth_under_make, depth_under_kw, depth_in1, depth_deeper, depth_caller]); (try dsimp only [ktrTop]); omega)) (by ((try simp only [units_in1, units_deeper, Around.mark_units, units_caller]); (try dsimp only [ktrTop]); omega)) ?_; intro _ _ _ _ _; (try dsimp only); (try k_fold)) | ((with_reducible show wpAny _ _ (PySem.call (PySem.Value.ref 65) [PySem.Value.str _ _]) _ _ _); (rename Fr _ _ _ _ => FZ); (rename News _ _ _ _ => NZ); (rename Below _ _ _ _ => BZ); (rename Frag.In _ _ => XZ); (rename Top _ _ _ _ _ _ => TZ); refine' header_ctr w mean mg mb _ _ (by omega) _ _ _ _ _ _ _ _ _ _ _ _ _ _ _ _ _ _ BZ FZ XZ NZ TZ rfl (by ((try simp only [depth_under_make, depth_under_kw, depth_in1, depth_deeper, depth_caller]); (try dsimp only [ktrTop]); omega)) (by ((try simp only [units_in1, units_deeper, Around.mark_units, units_caller]); (try dsimp only [ktrTop]); omega)) ?_; intro _ _ _ _ _; (try dsimp only); (try k_fold)) | ((fail_if_success (with_reducible show wpAny _ _ (PySem.exec (PySem.Stmt.While _ _ _ _) _) _ _ _)); (fail_if_success (with_reducible show wpAny _ _ (PySem.pyIter _) _ _ _)); (fail_if_success (with_reducible show wpAny _ _ (PySem.call (PySem.Value.ref _) _ _) _ _ _)); (fail_if_success (with_reducible show InvEndN _ _ _ _ _ _ _)); (fail_if_success (with_reducible show KswEnd _ _ _ _ _ _ _ _ _ _ _ _)); (first | (k_unfold; (try dsimp only)) | (k_end; wrow_close) | (walk1; (all_goals (try (conv => arg 6; dsimp only)))) | (dsimp only; walk1) | (leave1; try dsimp only) | fail "no step")))
        all_goals (try dsimp only)
        all_goals first
          | (exfalso; omega)
          | (exfalso; (have e : (true != decide (dueL (Txt.slice x (some 1) (some 3)).cps.toList < 0)) = true := by with_reducible assumption); rw [decide_eq_true hneg] at e; cases e)
          | (exfalso; (have e : (false != decide (dueL (Txt.slice x (some 1) (some 3)).cps.toList < 0)) = true := by with_reducible assumption); rw [decide_eq_false hneg] at e; cases e)
          | (exfalso; (have e : ((⟨#[(dueL (Txt.slice x (some 1) (some 3)).cps.toList).toNat]⟩ : Str) != ⟨#[(dueL (Txt.slice x (some 1) (some 3)).cps.toList).toNat]⟩) = true := by with_reducible assumption); simp at e; done)
          | ((with_reducible show LeaveS0 _ _ _ _ _ _ _ _)
             (rename Fr _ _ _ _ => FE); (rename News _ _ _ _ => NE)
             refine leaveS0_ FE NE T3 (fun FR NR => ret_b (hret 0 _ _ FR NR) ?_)
             (first
          | rfl
          | (rw [Bool.not_eq_true']; with_reducible assumption)
          | exact last_eq (ok.noesc _ _ ((first_eq hc (by with_reducible assumption)) ▸ hc) (.inl (fig_if hi0 (b := false) (by with_reducible assumption)))).2 (end_occ hi0 (by with_reducible assumption)) (end_occ hi1 (by with_reducible assumption))
          | exact last_eq (ok.noesc _ _ ((first_eq hc (by with_reducible assumption)) ▸ hc) (.inr (fig_if hi1 (b := false) (by with_reducible assumption)))).2 (end_occ hi0 (by with_reducible assumption)) (end_occ hi1 (by with_reducible assumption))))
    
      · refine wpP_call ?_
        k_dflt (refine' codeP_defS ?k1 ?k2 ?k3 ?k4 ?k6 ?k7 ?k8 ?k9 ?kB ?_ ?kK ?c2 ?c3 ?c4 ?c5; (case kK => assumption); (case k1 => k_asm); (case k2 => k_asm); (case k3 => k_asm); (case k4 => k_asm); (case k6 => k_is); (case k7 => k_is); (case k8 => first | ktr_room | decide +kernel); (case k9 => first | exact BindsTo.of_eq rfl | exact binds_K (by k_in) rfl (by k_is) rfl rfl rfl); (case kB => exact locs rfl); (case c2 => exact rfl); (case c3 => exact rfl); (case c4 => exact rfl); (case c5 => decide); k_whole; intro g1 L1 h1 FG1 F1 N1 B1 X1 T1 D1 nL1; (try dsimp only); (try k_lift B1); (try k_fold))
        refine wpP_of ?_
        repeat' ((fail_if_success (with_reducible show LeaveS0 _ _ _ _ _ _ _ _)); first | ((with_reducible show wpAny _ _ (PySem.execs (_ :: _) _) _ _ _); refine wpAny_execs_cons (tok_q (n := 1) (by (try dsimp only); (first | omega | (simp; done) | (simp; omega))) ?_); (try dsimp only)) | ((with_reducible show wpAny _ _ (PySem.eval (PySem.Expr.Call (PySem.Expr.Name (PySem.Str.ofString "header_decode") _) _ _ _) _) _ _ _); refine tok_q (n := 1) (by (try dsimp only); omega) ?_; walk1; (all_goals (try (conv => arg 6; dsimp only)))) | ((with_reducible show wpAny _ _ (PySem.call (PySem.Value.builtin "str.replace") _) _ _ _); refine SC.replaceW (by (show @Ne Nat _ _); omega) (by (show @Ne Nat _ _); omega) (by (show @Ne Nat _ _); omega) (by decide +kernel) (by omega) (by decide +kernel) ?_; intro _ _; (try dsimp only); (try k_fold)) | ((with_reducible show (1 ≤ _) → _); intro htk; (try dsimp only at htk); (try dsimp only)) | ((with_reducible show wpAny _ _ (PySem.call (PySem.Value.ref 95) [PySem.Value.str _ _]) _ _ _); (rename Fr _ _ _ _ => FZ); (rename News _ _ _ _ => NZ); (rename Below _ _ _ _ => BZ); (rename Frag.In _ _ => XZ); (rename Top _ _ _ _ _ _ => TZ); refine' due_ctr w mean mg mb _ _ (slice_two _) _ _ _ _ _ _ _ _ _ _ _ _ _ _ _ _ _ _ BZ FZ XZ NZ TZ rfl (by ((try simp only [depth_under_make, depth_under_kw, depth_in1, depth_deeper, depth_caller]); (try dsimp only [ktrTop]); omega)) (by ((try simp only [units_in1, units_deeper, Around.mark_units, units_caller]); (try dsimp only [ktrTop]); omega)) ?_; intro _ _ _ _ _; (try dsimp only); (try k_fold)) | ((with_reducible show wpAny _ _ (PySem.call (PySem.Value.ref 74) [PySem.Value.str _ _]) _ _ _); (rename Fr _ _ _ _ => FZ); (rename News _ _ _ _ => NZ); (rename Below _ _ _ _ => BZ); (rename Frag.In _ _ => XZ); (rename Top _ _ _ _ _ _ => TZ); refine' figure_ctr w mean mg mb _ _ _ (by with_reducible assumption) _ _ _ _ _ _ _ _ _ _ _ _ _ _ _ _ _ _ BZ FZ XZ NZ TZ rfl (by ((try simp only [depth_under_make, depth_under_kw, depth_in1, depth_deeper, depth_caller]); (try dsimp only [ktrTop]); omega)) (by ((try simp only [units_in1, units_deeper, Around.mark_units, units_caller]); (try dsimp only [ktrTop]); omega)) ?_; intro _ _ _ _ _; (try dsimp only); (try k_fold)) | ((with_reducible show wpAny _ _ (PySem.call (PySem.Value.ref 51) [PySem.Value.str _ _]) _ _ _); (rename Fr _ _ _ _ => FZ); (rename News _ _ _ _ => NZ); (rename Below _ _ _ _ => BZ); (rename Frag.In _ _ => XZ); (rename Top _ _ _ _ _ _ => TZ); refine' decode_ctr w mean mg mb _ _ (by omega) _ _ _ _ _ _ _ _ _ _ _ _ _ _ _ _ _ _ BZ FZ XZ NZ TZ rfl (by ((try simp only [depth_under_make, depth_under_kw, depth_in1, depth_deeper, depth_caller]); (try dsimp only [ktrTop]); omega)) (by ((try simp only [units_in1, units_deeper, Around.mark_units, units_caller]); (try dsimp only [ktrTop]); omega)) ?_; intro _ _ _ _ _; (try dsimp only); (try k_fold)) | ((with_reducible show wpAny _ _ (PySem.call (PySem.Value.ref 65) [PySem.Value.str _ _]) _ _ _); (rename Fr _ _ _ _ => FZ); (rename News _ _ _ _ => NZ); (rename Below _ _ _ _ => BZ); (rename Frag.In _ _ => XZ); (rename Top _ _ _ _ _ _ => TZ); refine' header_ctr w mean mg mb _ _ (by omega) _ _ _ _ _ _ _ _ _ _ _ _ _ _ _ _ _ _ BZ FZ XZ NZ TZ rfl (by ((try simp only [depth_under_make, depth_under_kw, depth_in1, depth_deeper, depth_caller]); (try dsimp only [ktrTop]); omega)) (by ((try simp only [units_in1, units_deeper, Around.mark_units, units_caller]); (try dsimp only [ktrTop]); omega)) ?_; intro _ _ _ _ _; (try dsimp only); (try k_fold)) | ((fail_if_success (with_reducible show wpAny _ _ (PySem.exec (PySem.Stmt.While _ _ _ _) _) _ _ _)); (fail_if_success (with_reducible show wpAny _ _ (PySem.pyIter _) _ _ _)); (fail_if_success (with_reducible show wpAny _ _ (PySem.call (PySem.Value.ref _) _ _) _ _ _)); (fail_if_success (with_reducible show InvEndN _ _ _ _ _ _ _)); (fail_if_success (with_reducible show KswEnd _ _ _ _ _ _ _ _ _ _ _ _)); (first | (k_unfold; (try dsimp only)) | (k_end; wrow_close) | (walk1; (all_goals (try (conv => arg 6; dsimp only)))) | (dsimp only; walk1) | (leave1; try dsimp only) | fail "no step")))
        refine wpAny_call ?_
        k_dflt (refine' code_def ?k1 ?k2 ?k3 ?k4 ?k5 ?kA ?kF ?kK ?k6 ?k7 ?k8 ?k9 ?kB ?_ ?c2 ?c3 ?c4 ?c5; (case kA => exact rfl); (case kF => exact rfl); (case kK => first | assumption | exact rfl); (case k1 => k_asm); (case k2 => k_asm); (case k3 => k_asm); (case k4 => k_asm); (case k5 => k_asm); (case k6 => k_is); (case k7 => k_is); (case k8 => ktr_room); (case k9 => first | exact BindsTo.of_eq rfl | exact binds_K (by k_in) rfl (by k_is) rfl rfl rfl); (case c5 => decide); (case kB => exact locs rfl); (case c2 => exact rfl); (case c3 => exact rfl); (case c4 => exact rfl); k_whole; intro g2 L2 h2 FG2 F2 N2 B2 X2 T2; (try dsimp only); (try k_lift B2); (try k_fold))
        repeat' ((fail_if_success (with_reducible show wpAny _ _ (PySem.exec (PySem.Stmt.While _ _ _ _) _) _ _ _)); (fail_if_success (with_reducible show wpAny _ _ (PySem.pyIter _) _ _ _)); (fail_if_success (with_reducible show wpAny _ _ (PySem.call (PySem.Value.ref _) _ _) _ _ _)); (fail_if_success (with_reducible show InvEndN _ _ _ _ _ _ _)); (fail_if_success (with_reducible show KswEnd _ _ _ _ _ _ _ _ _ _ _ _)); (first | (k_unfold; (try dsimp only)) | (k_end; wrow_close) | walk1 | (dsimp only; walk1) | (leave1; try dsimp only) | fail "no step"))
        refine call_int16_some hn (by omega) ?_
        (try dsimp only)
        repeat' ((fail_if_success (with_reducible show wpAny _ _ (PySem.exec (PySem.Stmt.While _ _ _ _) _) _ _ _)); (fail_if_success (with_reducible show wpAny _ _ (PySem.pyIter _) _ _ _)); (fail_if_success (with_reducible show wpAny _ _ (PySem.call (PySem.Value.ref _) _ _) _ _ _)); (fail_if_success (with_reducible show InvEndN _ _ _ _ _ _ _)); (fail_if_success (with_reducible show KswEnd _ _ _ _ _ _ _ _ _ _ _ _)); (first | (k_unfold; (try dsimp only)) | (k_end; wrow_close) | walk1 | (dsimp only; walk1) | (leave1; try dsimp only) | fail "no step"))
        (rename Fr _ _ _ _ => F3); (rename News _ _ _ _ => N3)
        refine chr_neg hn9 rfl ?_
        intro hpe e vs tke hM
        (try dsimp only)
        refine leave_raiseS (base := h₀) (g := g2) B2 hM.of F3 N3 ?_
        intro he2 te RS RK hsm
        (try dsimp only)
        refine caught_S0 (T' := "ValueError") RS FG2 BZ hsm X T D1 KtsTurn.refl ?ex PyProof.Rows.Boot.«ValueError» (by decide) PySem.F.isExc_ValueError PySem.F.notTuple_ValueError ?hs ?_
        case ex => k_is
        case hs => kts_sub
        intro he3 g3 n3 T3 F4 N4 G4 N5 B4 X4 P4 D4
        clear N4 G4 RS RK hsm hM B2 X2 T2 F3 N3 FG2
        (try dsimp only at F4)
        (try k_lift B4)
        (try dsimp only)
        (try k_fold)
        repeat' ((fail_if_success (with_reducible show LeaveS0 _ _ _ _ _ _ _ _)); first | ((with_reducible show wpAny _ _ (PySem.execs (_ :: _) _) _ _ _); refine wpAny_execs_cons (tok_q (n := 1) (by (try dsimp only); (first | omega | (simp; done) | (simp; omega))) ?_); (try dsimp only)) | ((with_reducible show wpAny _ _ (PySem.eval (PySem.Expr.Call (PySem.Expr.Name (PySem.Str.ofString "header_decode") _) _ _ _) _) _ _ _); refine tok_q (n := 1) (by (try dsimp only); omega) ?_; walk1; (all_goals (try (conv => arg 6; dsimp only)))) | ((with_reducible show wpAny _ _ (PySem.call (PySem.Value.builtin "str.replace") _) _ _ _); refine SC.replaceW (by (show @Ne Nat _ _); omega) (by (show @Ne Nat _ _); omega) (by (show @Ne Nat _ _); omega) (by decide +kernel) (by omega) (by decide +kernel) ?_; intro _ _; (try dsimp only); (try k_fold)) | ((with_reducible show (1 ≤ _) → _); intro htk; (try dsimp only at htk); (try dsimp only)) | ((with_reducible show wpAny _ _ (PySem.call (PySem.Value.ref 95) [PySem.Value.str _ _]) _ _ _); (rename Fr _ _ _ _ => FZ); (rename News _ _ _ _ => NZ); (rename Below _ _ _ _ => BZ); (rename Frag.In _ _ => XZ); (rename Top _ _ _ _ _ _ => TZ); refine' due_ctr w mean mg mb _ _ (slice_two _) _ _ _ _ _ _ _ _ _ _ _ _ _ _ _ _ _ _ BZ FZ XZ NZ TZ rfl (by ((try simp only [depth_under_make, depth_under_kw, depth_in1, depth_deeper, depth_caller]); (try dsimp only [ktrTop]); omega)) (by ((try simp only [units_in1, units_deeper, Around.mark_units, units_caller]); (try dsimp only [ktrTop]); omega)) ?_; intro _ _ _ _ _; (try dsimp only); (try k_fold)) | ((with_reducible show wpAny _ _ (PySem.call (PySem.Value.ref 74) [PySem.Value.str _ _]) _ _ _); (rename Fr _ _ _ _ => FZ); (rename News _ _ _ _ => NZ); (rename Below _ _ _ _ => BZ); (rename Frag.In _ _ => XZ); (rename Top _ _ _ _ _ _ => TZ); refine' figure_ctr w mean mg mb _ _ _ (by with_reducible assumption) _ _ _ _ _ _ _ _ _ _ _ _ _ _ _ _ _ _ BZ FZ XZ NZ TZ rfl (by ((try simp only [depth_under_make, depth_under_kw, depth_in1, depth_deeper, depth_caller]); (try dsimp only [ktrTop]); omega)) (by ((try simp only [units_in1, units_deeper, Around.mark_units, units_caller]); (try dsimp only [ktrTop]); omega)) ?_; intro _ _ _ _ _; (try dsimp only); (try k_fold)) | ((with_reducible show wpAny _ _ (PySem.call (PySem.Value.ref 51) [PySem.Value.str _ _]) _ _ _); (rename Fr _ _ _ _ => FZ); (rename News _ _ _ _ => NZ); (rename Below _ _ _ _ => BZ); (rename Frag.In _ _ => XZ); (rename Top _ _ _ _ _ _ => TZ); refine' decode_ctr w mean mg mb _ _ (by omega) _ _ _ _ _ _ _ _ _ _ _ _ _ _ _ _ _ _ BZ FZ XZ NZ TZ rfl (by ((try simp only [depth_under_make, depth_under_kw, depth_in1, depth_deeper, depth_caller]); (try dsimp only [ktrTop]); omega)) (by ((try simp only [units_in1, units_deeper, Around.mark_units, units_caller]); (try dsimp only [ktrTop]); omega)) ?_; intro _ _ _ _ _; (try dsimp only); (try k_fold)) | ((with_reducible show wpAny _ _ (PySem.call (PySem.Value.ref 65) [PySem.Value.str _ _]) _ _ _); (rename Fr _ _ _ _ => FZ); (rename News _ _ _ _ => NZ); (rename Below _ _ _ _ => BZ); (rename Frag.In _ _ => XZ); (rename Top _ _ _ _ _ _ => TZ); refine' header_ctr w mean mg mb _ _ (by omega) _ _ _ _ _ _ _ _ _ _ _ _ _ _ _ _ _ _ BZ FZ XZ NZ TZ rfl (by ((try simp only [depth_under_make, depth_under_kw, depth_in1, depth_deeper, depth_caller]); (try dsimp only [ktrTop]); omega)) (by ((try simp only [units_in1, units_deeper, Around.mark_units, units_caller]); (try dsimp only [ktrTop]); omega)) ?_; intro _ _ _ _ _; (try dsimp only); (try k_fold)) | ((fail_if_success (with_reducible show wpAny _ _ (PySem.exec (PySem.Stmt.While _ _ _ _) _) _ _ _)); (fail_if_success (with_reducible show wpAny _ _ (PySem.pyIter _) _ _ _)); (fail_if_success (with_reducible show wpAny _ _ (PySem.call (PySem.Value.ref _) _ _) _ _ _)); (fail_if_success (with_reducible show InvEndN _ _ _ _ _ _ _)); (fail_if_success (with_reducible show KswEnd _ _ _ _ _ _ _ _ _ _ _ _)); (first | (k_unfold; (try dsimp only)) | (k_end; wrow_close) | (walk1; (all_goals (try (conv => arg 6; dsimp only)))) | (dsimp only; walk1) | (leave1; try dsimp only) | fail "no step")))
        all_goals (try dsimp only)
        all_goals first
          | (exfalso; omega)
          | (exfalso; (have e : (true != decide (dueL (Txt.slice x (some 1) (some 3)).cps.toList < 0)) = true := by with_reducible assumption); rw [decide_eq_true hneg] at e; cases e)
          | (exfalso; (have e : (false != decide (dueL (Txt.slice x (some 1) (some 3)).cps.toList < 0)) = true := by with_reducible assumption); rw [decide_eq_false hneg] at e; cases e)
          | (exfalso; (have e : ((⟨#[(dueL (Txt.slice x (some 1) (some 3)).cps.toList).toNat]⟩ : Str) != ⟨#[(dueL (Txt.slice x (some 1) (some 3)).cps.toList).toNat]⟩) = true := by with_reducible assumption); simp at e; done)
          | ((with_reducible show LeaveS0 _ _ _ _ _ _ _ _)
             (rename Fr _ _ _ _ => FE); (rename News _ _ _ _ => NE)
             refine leaveS0_ FE NE T3 (fun FR NR => ret_b (hret 0 _ _ FR NR) ?_)
             (first
          | rfl
          | (rw [Bool.not_eq_true']; with_reducible assumption)
          | exact last_eq (ok.noesc _ _ ((first_eq hc (by with_reducible assumption)) ▸ hc) (.inl (fig_if hi0 (b := false) (by with_reducible assumption)))).2 (end_occ hi0 (by with_reducible assumption)) (end_occ hi1 (by with_reducible assumption))
          | exact last_eq (ok.noesc _ _ ((first_eq hc (by with_reducible assumption)) ▸ hc) (.inr (fig_if hi1 (b := false) (by with_reducible assumption)))).2 (end_occ hi0 (by with_reducible assumption)) (end_occ hi1 (by with_reducible assumption))))
    
    · have hn := ok.pos hneg
      refine wpP_call ?_
      k_dflt (refine' codeP_defS ?k1 ?k2 ?k3 ?k4 ?k6 ?k7 ?k8 ?k9 ?kB ?_ ?kK ?c2 ?c3 ?c4 ?c5; (case kK => assumption); (case k1 => k_asm); (case k2 => k_asm); (case k3 => k_asm); (case k4 => k_asm); (case k6 => k_is); (case k7 => k_is); (case k8 => first | ktr_room | decide +kernel); (case k9 => first | exact BindsTo.of_eq rfl | exact binds_K (by k_in) rfl (by k_is) rfl rfl rfl); (case kB => exact locs rfl); (case c2 => exact rfl); (case c3 => exact rfl); (case c4 => exact rfl); (case c5 => decide); k_whole; intro g1 L1 h1 FG1 F1 N1 B1 X1 T1 D1 nL1; (try dsimp only); (try k_lift B1); (try k_fold))
      refine wpP_of ?_
      repeat' ((fail_if_success (with_reducible show LeaveS0 _ _ _ _ _ _ _ _)); first | ((with_reducible show wpAny _ _ (PySem.execs (_ :: _) _) _ _ _); refine wpAny_execs_cons (tok_q (n := 1) (by (try dsimp only); (first | omega | (simp; done) | (simp; omega))) ?_); (try dsimp only)) | ((with_reducible show wpAny _ _ (PySem.eval (PySem.Expr.Call (PySem.Expr.Name (PySem.Str.ofString "header_decode") _) _ _ _) _) _ _ _); refine tok_q (n := 1) (by (try dsimp only); omega) ?_; walk1; (all_goals (try (conv => arg 6; dsimp only)))) | ((with_reducible show wpAny _ _ (PySem.call (PySem.Value.builtin "str.replace") _) _ _ _); refine SC.replaceW (by (show @Ne Nat _ _); omega) (by (show @Ne Nat _ _); omega) (by (show @Ne Nat _ _); omega) (by decide +kernel) (by omega) (by decide +kernel) ?_; intro _ _; (try dsimp only); (try k_fold)) | ((with_reducible show (1 ≤ _) → _); intro htk; (try dsimp only at htk); (try dsimp only)) | ((with_reducible show wpAny _ _ (PySem.call (PySem.Value.ref 95) [PySem.Value.str _ _]) _ _ _); (rename Fr _ _ _ _ => FZ); (rename News _ _ _ _ => NZ); (rename Below _ _ _ _ => BZ); (rename Frag.In _ _ => XZ); (rename Top _ _ _ _ _ _ => TZ); refine' due_ctr w mean mg mb _ _ (slice_two _) _ _ _ _ _ _ _ _ _ _ _ _ _ _ _ _ _ _ BZ FZ XZ NZ TZ rfl (by ((try simp only [depth_under_make, depth_under_kw, depth_in1, depth_deeper, depth_caller]); (try dsimp only [ktrTop]); omega)) (by ((try simp only [units_in1, units_deeper, Around.mark_units, units_caller]); (try dsimp only [ktrTop]); omega)) ?_; intro _ _ _ _ _; (try dsimp only); (try k_fold)) | ((with_reducible show wpAny _ _ (PySem.call (PySem.Value.ref 74) [PySem.Value.str _ _]) _ _ _); (rename Fr _ _ _ _ => FZ); (rename News _ _ _ _ => NZ); (rename Below _ _ _ _ => BZ); (rename Frag.In _ _ => XZ); (rename Top _ _ _ _ _ _ => TZ); refine' figure_ctr w mean mg mb _ _ _ (by with_reducible assumption) _ _ _ _ _ _ _ _ _ _ _ _ _ _ _ _ _ _ BZ FZ XZ NZ TZ rfl (by ((try simp only [depth_under_make, depth_under_kw, depth_in1, depth_deeper, depth_caller]); (try dsimp only [ktrTop]); omega)) (by ((try simp only [units_in1, units_deeper, Around.mark_units, units_caller]); (try dsimp only [ktrTop]); omega)) ?_; intro _ _ _ _ _; (try dsimp only); (try k_fold)) | ((with_reducible show wpAny _ _ (PySem.call (PySem.Value.ref 51) [PySem.Value.str _ _]) _ _ _); (rename Fr _ _ _ _ => FZ); (rename News _ _ _ _ => NZ); (rename Below _ _ _ _ => BZ); (rename Frag.In _ _ => XZ); (rename Top _ _ _ _ _ _ => TZ); refine' decode_ctr w mean mg mb _ _ (by omega) _ _ _ _ _ _ _ _ _ _ _ _ _ _ _ _ _ _ BZ FZ XZ NZ TZ rfl (by ((try simp only [depth_under_make, depth_under_kw, depth_in1, depth_deeper, depth_caller]); (try dsimp only [ktrTop]); omega)) (by ((try simp only [units_in1, units_deeper, Around.mark_units, units_caller]); (try dsimp only [ktrTop]); omega)) ?_; intro _ _ _ _ _; (try dsimp only); (try k_fold)) | ((with_reducible show wpAny _ _ (PySem.call (PySem.Value.ref 65) [PySem.Value.str _ _]) _ _ _); (rename Fr _ _ _ _ => FZ); (rename News _ _ _ _ => NZ); (rename Below _ _ _ _ => BZ); (rename Frag.In _ _ => XZ); (rename Top _ _ _ _ _ _ => TZ); refine' header_ctr w mean mg mb _ _ (by omega) _ _ _ _ _ _ _ _ _ _ _ _ _ _ _ _ _ _ BZ FZ XZ NZ TZ rfl (by ((try simp only [depth_under_make, depth_under_kw, depth_in1, depth_deeper, depth_caller]); (try dsimp only [ktrTop]); omega)) (by ((try simp only [units_in1, units_deeper, Around.mark_units, units_caller]); (try dsimp only [ktrTop]); omega)) ?_; intro _ _ _ _ _; (try dsimp only); (try k_fold)) | ((fail_if_success (with_reducible show wpAny _ _ (PySem.exec (PySem.Stmt.While _ _ _ _) _) _ _ _)); (fail_if_success (with_reducible show wpAny _ _ (PySem.pyIter _) _ _ _)); (fail_if_success (with_reducible show wpAny _ _ (PySem.call (PySem.Value.ref _) _ _) _ _ _)); (fail_if_success (with_reducible show InvEndN _ _ _ _ _ _ _)); (fail_if_success (with_reducible show KswEnd _ _ _ _ _ _ _ _ _ _ _ _)); (first | (k_unfold; (try dsimp only)) | (k_end; wrow_close) | (walk1; (all_goals (try (conv => arg 6; dsimp only)))) | (dsimp only; walk1) | (leave1; try dsimp only) | fail "no step")))
      (rename Fr _ _ _ _ => F2); (rename News _ _ _ _ => N2)
      refine' unquote_ctr w mean mg mb _ _ _ (by omega) hn (by omega) ok.lt _ _ _ _ _ _ _ _ _ _ _ _ _ _ _ _ _ _ BZ F2 XZ N2 TZ rfl (by ((try simp only [depth_under_make, depth_under_kw, depth_in1, depth_deeper, depth_caller]); (try dsimp only [ktrTop]); omega)) (by ((try simp only [units_in1, units_deeper, Around.mark_units, units_caller]); (try dsimp only [ktrTop]); omega)) ?_
      intro _ _ _ _ _
      (try dsimp only)
      (try k_fold)
      repeat' ((fail_if_success (with_reducible show LeaveS0 _ _ _ _ _ _ _ _)); first | ((with_reducible show wpAny _ _ (PySem.execs (_ :: _) _) _ _ _); refine wpAny_execs_cons (tok_q (n := 1) (by (try dsimp only); (first | omega | (simp; done) | (simp; omega))) ?_); (try dsimp only)) | ((with_reducible show wpAny _ _ (PySem.eval (PySem.Expr.Call (PySem.Expr.Name (PySem.Str.ofString "header_decode") _) _ _ _) _) _ _ _); refine tok_q (n := 1) (by (try dsimp only); omega) ?_; walk1; (all_goals (try (conv => arg 6; dsimp only)))) | ((with_reducible show wpAny _ _ (PySem.call (PySem.Value.builtin "str.replace") _) _ _ _); refine SC.replaceW (by (show @Ne Nat _ _); omega) (by (show @Ne Nat _ _); omega) (by (show @Ne Nat _ _); omega) (by decide +kernel) (by omega) (by decide +kernel) ?_; intro _ _; (try dsimp only); (try k_fold)) | ((with_reducible show (1 ≤ _) → _); intro htk; (try dsimp only at htk); (try dsimp only)) | ((with_reducible show wpAny _ _ (PySem.call (PySem.Value.ref 95) [PySem.Value.str _ _]) _ _ _); (rename Fr _ _ _ _ => FZ); (rename News _ _ _ _ => NZ); (rename Below _ _ _ _ => BZ); (rename Frag.In _ _ => XZ); (rename Top _ _ _ _ _ _ => TZ); refine' due_ctr w mean mg mb _ _ (slice_two _) _ _ _ _ _ _ _ _ _ _ _ _ _ _ _ _ _ _ BZ FZ XZ NZ TZ rfl (by ((try simp only [depth_under_make, depth_under_kw, depth_in1, depth_deeper, depth_caller]); (try dsimp only [ktrTop]); omega)) (by ((try simp only [units_in1, units_deeper, Around.mark_units, units_caller]); (try dsimp only [ktrTop]); omega)) ?_; intro _ _ _ _ _; (try dsimp only); (try k_fold)) | ((with_reducible show wpAny _ _ (PySem.call (PySem.Value.ref 74) [PySem.Value.str _ _]) _ _ _); (rename Fr _ _ _ _ => FZ); (rename News _ _ _ _ => NZ); (rename Below _ _ _ _ => BZ); (rename Frag.In _ _ => XZ); (rename Top _ _ _ _ _ _ => TZ); refine' figure_ctr w mean mg mb _ _ _ (by with_reducible assumption) _ _ _ _ _ _ _ _ _ _ _ _ _ _ _ _ _ _ BZ FZ XZ NZ TZ rfl (by ((try simp only [depth_under_make, depth_under_kw, depth_in1, depth_deeper, depth_caller]); (try dsimp only [ktrTop]); omega)) (by ((try simp only [units_in1, units_deeper, Around.mark_units, units_caller]); (try dsimp only [ktrTop]); omega)) ?_; intro _ _ _ _ _; (try dsimp only); (try k_fold)) | ((with_reducible show wpAny _ _ (PySem.call (PySem.Value.ref 51) [PySem.Value.str _ _]) _ _ _); (rename Fr _ _ _ _ => FZ); (rename News _ _ _ _ => NZ); (rename Below _ _ _ _ => BZ); (rename Frag.In _ _ => XZ); (rename Top _ _ _ _ _ _ => TZ); refine' decode_ctr w mean mg mb _ _ (by omega) _ _ _ _ _ _ _ _ _ _ _ _ _ _ _ _ _ _ BZ FZ XZ NZ TZ rfl (by ((try simp only [depth_under_make, depth_under_kw, depth_in1, depth_deeper, depth_caller]); (try dsimp only [ktrTop]); omega)) (by ((try simp only [units_in1, units_deeper, Around.mark_units, units_caller]); (try dsimp only [ktrTop]); omega)) ?_; intro _ _ _ _ _; (try dsimp only); (try k_fold)) | ((with_reducible show wpAny _ _ (PySem.call (PySem.Value.ref 65) [PySem.Value.str _ _]) _ _ _); (rename Fr _ _ _ _ => FZ); (rename News _ _ _ _ => NZ); (rename Below _ _ _ _ => BZ); (rename Frag.In _ _ => XZ); (rename Top _ _ _ _ _ _ => TZ); refine' header_ctr w mean mg mb _ _ (by omega) _ _ _ _ _ _ _ _ _ _ _ _ _ _ _ _ _ _ BZ FZ XZ NZ TZ rfl (by ((try simp only [depth_under_make, depth_under_kw, depth_in1, depth_deeper, depth_caller]); (try dsimp only [ktrTop]); omega)) (by ((try simp only [units_in1, units_deeper, Around.mark_units, units_caller]); (try dsimp only [ktrTop]); omega)) ?_; intro _ _ _ _ _; (try dsimp only); (try k_fold)) | ((fail_if_success (with_reducible show wpAny _ _ (PySem.exec (PySem.Stmt.While _ _ _ _) _) _ _ _)); (fail_if_success (with_reducible show wpAny _ _ (PySem.pyIter _) _ _ _)); (fail_if_success (with_reducible show wpAny _ _ (PySem.call (PySem.Value.ref _) _ _) _ _ _)); (fail_if_success (with_reducible show InvEndN _ _ _ _ _ _ _)); (fail_if_success (with_reducible show KswEnd _ _ _ _ _ _ _ _ _ _ _ _)); (first | (k_unfold; (try dsimp only)) | (k_end; wrow_close) | (walk1; (all_goals (try (conv => arg 6; dsimp only)))) | (dsimp only; walk1) | (leave1; try dsimp only) | fail "no step")))
      all_goals (try dsimp only)
      all_goals first
        | (exfalso; omega)
        | (exfalso; (have e : (true != decide (dueL (Txt.slice x (some 1) (some 3)).cps.toList < 0)) = true := by with_reducible assumption); rw [decide_eq_true hneg] at e; cases e)
        | (exfalso; (have e : (false != decide (dueL (Txt.slice x (some 1) (some 3)).cps.toList < 0)) = true := by with_reducible assumption); rw [decide_eq_false hneg] at e; cases e)
        | (exfalso; (have e : ((⟨#[(dueL (Txt.slice x (some 1) (some 3)).cps.toList).toNat]⟩ : Str) != ⟨#[(dueL (Txt.slice x (some 1) (some 3)).cps.toList).toNat]⟩) = true := by with_reducible assumption); simp at e; done)
        | ((with_reducible show LeaveS0 _ _ _ _ _ _ _ _)
           (rename Fr _ _ _ _ => FE); (rename News _ _ _ _ => NE)
           refine leaveS0_ FE NE KtsTurn.refl (fun FR NR => ret_b (hret 0 _ _ FR NR) ?_)
           (first
          | rfl
          | (rw [Bool.not_eq_true']; with_reducible assumption)
          | exact last_eq (ok.noesc _ _ ((first_eq hc (by with_reducible assumption)) ▸ hc) (.inl (fig_if hi0 (b := false) (by with_reducible assumption)))).2 (end_occ hi0 (by with_reducible assumption)) (end_occ hi1 (by with_reducible assumption))
          | exact last_eq (ok.noesc _ _ ((first_eq hc (by with_reducible assumption)) ▸ hc) (.inr (fig_if hi1 (b := false) (by with_reducible assumption)))).2 (end_occ hi0 (by with_reducible assumption)) (end_occ hi1 (by with_reducible assumption))))
  
end Mine
end PartC2
section PartK1
open PySem PySem.W PyProof.Rows PySem.Spec PySem.Calls PySem.Builtin.Str
set_option maxRecDepth 100000
set_option maxHeartbeats 8000000
namespace Mine
/-! ## every text that the law builds answers as asked -/
def T23 : List Nat := [48, 57, 97, 102, 65, 70, 103, 71, 32, 9, 10, 11, 12, 13, 43, 45, 95, 120, 88, 61, 0, 28, 49]
def TextOk (x : Str) : Prop := x.length ≤ 5 ∧ ((x.cps.toList.take 3).drop 1 = [] ∨ (∃ p ∈ T23, (x.cps.toList.take 3).drop 1 = [p]) ∨ ∃ p ∈ T23, ∃ q ∈ T23, (x.cps.toList.take 3).drop 1 = [p, q])
def numOk (l : List Nat) : Bool := (if dueL l < 0 then (match int16? ⟨l.toArray⟩ with | none => true | some n => decide (n < 0)) else int16? ⟨l.toArray⟩ == some (dueL l)) && decide (dueL l < 256)
theorem numOk_neg {l : List Nat} (h : numOk l = true) (hn : dueL l < 0) : int16? ⟨l.toArray⟩ = none ∨ ∃ n, n < 0 ∧ int16? ⟨l.toArray⟩ = some n := by
  unfold numOk at h
  rw [if_pos hn, Bool.and_eq_true] at h
  cases e : int16? ⟨l.toArray⟩ with
  | none => exact .inl rfl
  | some n =>
    rw [e] at h
    exact .inr ⟨n, by simpa using h.1, rfl⟩
theorem numOk_pos {l : List Nat} (h : numOk l = true) (hn : ¬ dueL l < 0) : int16? ⟨l.toArray⟩ = some (dueL l) := by
  unfold numOk at h
  rw [if_neg hn, Bool.and_eq_true] at h
  exact eq_of_beq h.1
theorem numOk_lt {l : List Nat} (h : numOk l = true) : dueL l < 256 := by
  unfold numOk at h
  rw [Bool.and_eq_true] at h
  simpa using h.2
theorem num_two : ∀ p ∈ T23, ∀ q ∈ T23, numOk [p, q] = true := by decide +kernel
theorem num_one : ∀ p ∈ T23, numOk [p] = true := by decide +kernel
theorem num_nil : numOk [] = true := by decide +kernel
def readOk (p q : Nat) : Bool :=
  if isHex p && isHex q then decT [61, p, q, 46] == [(dueL [p, q]).toNat, 46] && hdrL [61, p, q, 46] == [(dueL [p, q]).toNat, 46]
  else hdrL [61, p, q, 46] == [61, p, q].map (swap1 95 32) ++ [46] && (endP p || endP q || decT [61, p, q, 46] == [61, p, q, 46])
theorem read_two : ∀ p ∈ T23, ∀ q ∈ T23, readOk p q = true := by decide +kernel
theorem asc_T : ∀ p ∈ T23, p < 128 := by decide
theorem slice_13_cps (x : Str) : (Txt.slice x (some 1) (some 3)).cps.toList = (x.cps.toList.take 3).drop 1 := by
  have hl := cps_length x
  rw [slice_cps]
  have h1 : clipN (some 3) x.length x.length = min 3 x.length := by unfold clipN; simp only; omega
  have h2 : clipN (some 1) 0 x.length = min 1 x.length := by unfold clipN; simp only; omega
  rw [h1, h2]
  have e1 : x.cps.toList.take (min 3 x.length) = x.cps.toList.take 3 := by
    rw [← hl, List.take_eq_take_iff]
    omega
  rw [e1]
  by_cases hx : 1 ≤ x.length
  · rw [Nat.min_eq_left hx]
  · have e : x.cps.toList = [] := List.length_eq_zero_iff.mp (by omega)
    rw [e]
    simp
theorem dot_cps : (Str.ofString ".").cps.toList = [46] := by decide +kernel
theorem oneOk_of {x : Str} (h : TextOk x) : OneOk x := by
  obtain ⟨hl, hp⟩ := h
  have hs := slice_13_cps x
  have hxl := cps_length x
  have key : numOk (Txt.slice x (some 1) (some 3)).cps.toList = true ∧ (∀ c ∈ (Txt.slice x (some 1) (some 3)).cps.toList, c < 128) := by
    rw [hs]
    rcases hp with e | ⟨p, hp, e⟩ | ⟨p, hp, q, hq, e⟩
    · rw [e]
      exact ⟨num_nil, fun _ h => nomatch h⟩
    · rw [e]
      exact ⟨num_one p hp, fun c hc => by rw [List.mem_singleton.mp hc]; exact asc_T p hp⟩
    · rw [e]
      refine ⟨num_two p hp q hq, fun c hc => ?_⟩
      rcases List.mem_cons.mp hc with e | hc
      · rw [e]; exact asc_T p hp
      · rw [List.mem_singleton.mp hc]; exact asc_T q hq
  have hstr : (⟨(Txt.slice x (some 1) (some 3)).cps.toList.toArray⟩ : Str) = Txt.slice x (some 1) (some 3) := str_ext rfl
  have k1 := numOk_neg key.1
  have k2 := numOk_pos key.1
  rw [hstr] at k1 k2
  have mem : ∀ p q, x.cps.toList = [61, p, q] → p ∈ T23 ∧ q ∈ T23 := fun p q e => by
    rw [e] at hp
    rcases hp with e | ⟨p', hp, e⟩ | ⟨p', hp, q', hq, e⟩
    · cases e
    · cases e
    · simp at e
      obtain ⟨rfl, rfl⟩ := e
      exact ⟨hp, hq⟩
  have dotL : ∀ p q, x.cps.toList = [61, p, q] → (x ++ Str.ofString ".").cps.toList = [61, p, q, 46] := fun p q e => by rw [cat_cps, e, dot_cps]; rfl
  refine ⟨hl, ⟨by have := slice_two x; omega, key.2⟩, k1, k2, numOk_lt key.1, fun p q e h1 h2 => ?_, fun p q e h1 => ?_⟩
  · obtain ⟨m1, m2⟩ := mem p q e
    have r := read_two p m1 q m2
    unfold readOk at r
    rw [h1, h2] at r
    simp only [Bool.and_self, if_true, Bool.and_eq_true, beq_iff_eq] at r
    have es : (Txt.slice x (some 1) (some 3)).cps.toList = [p, q] := by rw [hs, e]; rfl
    rw [es]
    refine ⟨str_ext ?_, str_ext ?_⟩
    · show decL (x ++ Str.ofString ".") = _
      rw [decL_eq, dotL p q e, r.1, cat_cps, dot_cps]
      rfl
    · show hdrL (x ++ Str.ofString ".").cps.toList = _
      rw [dotL p q e, r.2, cat_cps, dot_cps]
      rfl
  · obtain ⟨m1, m2⟩ := mem p q e
    have r := read_two p m1 q m2
    unfold readOk at r
    have hx : (isHex p && isHex q) = false := by
      rcases h1 with h1 | h1 <;> rw [h1] <;> simp
    rw [hx] at r
    simp only [Bool.false_eq_true, if_false, Bool.and_eq_true, beq_iff_eq, Bool.or_eq_true] at r
    refine ⟨str_ext ?_, ?_⟩
    · show hdrL (x ++ Str.ofString ".").cps.toList = _
      rw [dotL p q e, r.1, cat_cps, dot_cps, under_cps, blank_cps, replace_map, e]
    · rcases r.2 with (r2 | r2) | r2
      · exact .inl r2
      · exact .inr (.inl r2)
      · refine .inr (.inr (str_ext ?_))
        show decL (x ++ Str.ofString ".") = _
        rw [decL_eq, dotL p q e, r2]
/-! ## the law's own texts -/
theorem table_lit : (Str.ofString "09afAFgG \t\n\x0b\x0c\r+-_xX=\x00\x1c").cps.toList = T23.take 22 := by decide +kernel
theorem table_item (i : Int) : ∃ p ∈ T23, (Txt.item (Str.ofString "09afAFgG \t\n\x0b\x0c\r+-_xX=\x00\x1c") (i.fmod 22)).cps.toList = [p] := by
  have h0 : 0 ≤ i.fmod 22 := Int.fmod_nonneg_of_pos _ (by decide)
  have h1 : i.fmod 22 < 22 := Int.fmod_lt_of_pos _ (by decide)
  have hl : (Str.ofString "09afAFgG \t\n\x0b\x0c\r+-_xX=\x00\x1c").length = 22 := by rw [← cps_length, table_lit]; rfl
  refine ⟨_, ?_, item_at h0 (by omega)⟩
  rw [table_lit]
  have hn : (i.fmod 22).toNat < 22 := by omega
  have : ∀ k < 22, (T23.take 22).getD k 0 ∈ T23 := by decide
  exact this _ hn
theorem q7_lit : (Str.ofString "Q7").cps.toList = [81, 55] := by decide +kernel
theorem whole_cps (c a b : Int) : ∃ p ∈ T23, ∃ q ∈ T23, ((⟨#[c.toNat]⟩ : Str) ++ Txt.item (Str.ofString "09afAFgG \t\n\x0b\x0c\r+-_xX=\x00\x1c") (a.fmod 22) ++ Txt.item (Str.ofString "09afAFgG \t\n\x0b\x0c\r+-_xX=\x00\x1c") (b.fmod 22) ++ Str.ofString "Q7").cps.toList = [c.toNat, p, q, 81, 55] := by
  obtain ⟨p, hp, ep⟩ := table_item a
  obtain ⟨q, hq, eq⟩ := table_item b
  refine ⟨p, hp, q, hq, ?_⟩
  rw [cat_cps, cat_cps, cat_cps, ep, eq, q7_lit]
  rfl
theorem text1_ok {w : Str} {c p q : Nat} (hw : w.cps.toList = [c, p, q, 81, 55]) (hp : p ∈ T23) (hq : q ∈ T23) (k : Nat) : TextOk (Txt.slice w none (some (([0, 1, 2, 3, 3, 3, 3, 5] : List Int).getD k 0))) := by
  have hl : w.length = 5 := by rw [← cps_length, hw]; rfl
  have hk : ∀ k : Nat, ([0, 1, 2, 3, 3, 3, 3, 5] : List Int).getD k 0 = 0 ∨ ([0, 1, 2, 3, 3, 3, 3, 5] : List Int).getD k 0 = 1 ∨ ([0, 1, 2, 3, 3, 3, 3, 5] : List Int).getD k 0 = 2 ∨ ([0, 1, 2, 3, 3, 3, 3, 5] : List Int).getD k 0 = 3 ∨ ([0, 1, 2, 3, 3, 3, 3, 5] : List Int).getD k 0 = 5 := by
    intro k
    by_cases h : k < 8
    · have : ∀ k < 8, ([0, 1, 2, 3, 3, 3, 3, 5] : List Int).getD k 0 = 0 ∨ ([0, 1, 2, 3, 3, 3, 3, 5] : List Int).getD k 0 = 1 ∨ ([0, 1, 2, 3, 3, 3, 3, 5] : List Int).getD k 0 = 2 ∨ ([0, 1, 2, 3, 3, 3, 3, 5] : List Int).getD k 0 = 3 ∨ ([0, 1, 2, 3, 3, 3, 3, 5] : List Int).getD k 0 = 5 := by decide
      exact this k h
    · left
      rw [List.getD_eq_getElem?_getD, List.getElem?_eq_none (by show 8 ≤ k; omega)]
      rfl
  have hs : ∀ j : Int, (Txt.slice w none (some j)).cps.toList = [c, p, q, 81, 55].take (clipN (some j) 5 5) := fun j => by
    rw [slice_cps, hw, hl]
    rfl
  refine ⟨?_, ?_⟩
  · rw [← cps_length, hs]
    rw [List.length_take]
    exact Nat.min_le_right _ _
  · rw [hs]
    rcases hk k with e | e | e | e | e <;> rw [e]
    · exact .inl rfl
    · exact .inl rfl
    · exact .inr (.inl ⟨p, hp, rfl⟩)
    · exact .inr (.inr ⟨p, hp, q, hq, rfl⟩)
    · exact .inr (.inr ⟨p, hp, q, hq, rfl⟩)
theorem text2_ok {w : Str} {c p q : Nat} (hw : w.cps.toList = [c, p, q, 81, 55]) (hp : p ∈ T23) (hq : q ∈ T23) : TextOk (Str.ofString "=" ++ Txt.slice w (some 1) (some 3)) := by
  have e : (Str.ofString "=" ++ Txt.slice w (some 1) (some 3)).cps.toList = [61, p, q] := by
    rw [cat_cps, slice_13_cps, hw]
    have : (Str.ofString "=").cps.toList = [61] := by decide +kernel
    rw [this]
    rfl
  refine ⟨by rw [← cps_length, e]; show 3 ≤ 5; decide, ?_⟩
  rw [e]
  exact .inr (.inr ⟨p, hp, q, hq, rfl⟩)
theorem typed_ok : ∀ y ∈ [Str.ofString "= 1", Str.ofString "=+f", Str.ofString "=-0", Str.ofString "=1\t", Str.ofString "=\x0bA", Str.ofString "=-1", Str.ofString "=0x", Str.ofString "=_1", Str.ofString "=1_", Str.ofString "=1", Str.ofString ""], TextOk y := by
  unfold TextOk
  decide +kernel
end Mine
end PartK1
section PartJ1
open PySem PySem.W PyProof.Rows PySem.Spec PySem.Calls PySem.Builtin.Str
set_option maxRecDepth 100000
set_option maxHeartbeats 16000000
set_option linter.unusedSimpArgs false
namespace Mine
theorem grows {us : List Value} {v : Value} (h : ∀ v ∈ us, ∃ (x : Str) (t : Tok), v = .str x t ∧ TextOk x) (hv : ∃ (x : Str) (t : Tok), v = .str x t ∧ TextOk x) : ∀ u ∈ us ++ [v], ∃ (x : Str) (t : Tok), u = .str x t ∧ TextOk x := fun u hu => by
  rcases List.mem_append.mp hu with hu | hu
  · exact h u hu
  · rw [List.mem_singleton.mp hu]; exact hv
theorem turn_end {h₀ h' : Heap} {L D : Addr} {x : Str} {m' m₀ : Str → Option Value} {us : List Value} {v1 v2 : Value} {k tk : Nat} {own : List (Addr × Obj)} {adr : List Addr} {stored : List Str} {pre : List Int} {s₁ : Shared} {P : List Int → List Value × Nat → Prop}
    (F : Fr h₀ L h' m') (N : News h₀ L h' ((D, listOf ((us.toArray.push v1).push v2) k) :: own)) (ha : [D] = adr) (hr : ∀ z, z ≠ x → (∀ p ∈ ([] : List (Str × Value)), z ≠ p.1) → stored.contains z = false → m' z = m₀ z) (hp : P pre (us ++ [v1] ++ [v2], k)) :
    InvEndN h₀ L (KstS (fun (c : List Value × Nat) => [(D, listOf c.1.toArray c.2)]) (fun _ => []) (fun _ => True) x stored m₀ P pre) own adr s₁ { s₁ with heap := h', toks := tk } := by
  rw [List.push_toArray, List.push_toArray] at N
  exact kst_end ((us ++ [v1] ++ [v2], k) : List Value × Nat) F N (fun p hp => by rw [List.mem_singleton.mp hp]; exact .head _) (fun p hp => .tail _ hp) ha trivial (List.forall_mem_nil _) hr hp
theorem law_holds : PySem.Challenge.rw_dm5002_01.Holds := by
  have fill9 : PySem.Challenge.rw_dm5002_01.row.prog = PySem.Challenge.rw_dm5002_01.row.prog ∧ ∀ P, K9 P = K9 P := by
    k_fill
    exact ⟨rfl, fun _ => rfl⟩
  clear fill9
  refine Mine.hd ?_
  k_fill
  intro w s₀ s₁ mg mb G Y fa o pm cd doc dV kV ho hd hcd hD hmg hg args vals as hpre hlay hrd hwl hlo
  have KX := kIn_of Y
  have X := (Ground.X G).1
  have V := (Ground.X G).2
  try w_nolog (first | (have GL := glob_more (Ground.glob G (by first | k_qdec | decide +kernel) (by first | k_qdec | decide +kernel)) V) | (have GL := glob_more (Ground.glob G (by decide +kernel) (by decide +kernel)) V))
  refine Ground.open G ?_
  intro T B D TE TW
  try (refine guard_noD D (by decide +kernel) ?_; clear D)
  obtain ⟨_, _, M⟩ := bmod_of_top T
  have TA := at_of_top T
  try (obtain ⟨_, _, he, B0⟩ := based_of_top T rfl hmg ho hd; have he' : cd = _ := he; subst he'; clear he)
  clear hmg
  wrow_args hpre hlay hrd hwl hlo
  refine ⟨GoodW.toG (goodW_bool0 hg (raisesW_false ?_) ?_), ?_⟩
  · wrow_none_raised
  · wrow_post
  refine enter_callP ?_
  w_top on
  refine codeP_mono ?_ (fun _ _ g => GoodW.toG g)
  have K0 := below_caller (Top.heap T)
  have he := Dflts.none hD rfl
  subst he
  refine call_fullP (by decide) ho hd (Top.nolimit T) hcd (BindsTo.of_eq rfl) (locs rfl) fun h₁ F => ?_
  w_binds F
  have N0 := (News.nil : News _ _ _ []).at F
  clear hd TA
  k_drop
  (try dsimp only)
  (try k_fold)
  refine p_execs_later ?_
  repeat' ((fail_if_success (with_reducible show wpAny _ _ (PySem.call (PySem.Value.type _) [PySem.Value.ref _]) _ _ _)); (fail_if_success (with_reducible show wpAny _ _ (PySem.exec (PySem.Stmt.While _ _ _ _) _) _ _ _)); (fail_if_success (with_reducible show wpAny _ _ (PySem.pyIter _) _ _ _)); (fail_if_success (with_reducible show wpAny _ _ (PySem.call (PySem.Value.ref _) _ _) _ _ _)); (fail_if_success (with_reducible show InvEndN _ _ _ _ _ _ _)); (fail_if_success (with_reducible show KswEnd _ _ _ _ _ _ _ _ _ _ _ _)); (first | (k_unfold; (try dsimp only)) | (k_end; wrow_close) | walk1 | (dsimp only; walk1) | (leave1; try dsimp only) | fail "no step"))
  refine p_execs_later ?_
  repeat' ((fail_if_success (with_reducible show wpAny _ _ (PySem.call (PySem.Value.type _) [PySem.Value.ref _]) _ _ _)); (fail_if_success (with_reducible show wpAny _ _ (PySem.exec (PySem.Stmt.While _ _ _ _) _) _ _ _)); (fail_if_success (with_reducible show wpAny _ _ (PySem.pyIter _) _ _ _)); (fail_if_success (with_reducible show wpAny _ _ (PySem.call (PySem.Value.ref _) _ _) _ _ _)); (fail_if_success (with_reducible show InvEndN _ _ _ _ _ _ _)); (fail_if_success (with_reducible show KswEnd _ _ _ _ _ _ _ _ _ _ _ _)); (first | (k_unfold; (try dsimp only)) | (k_end; wrow_close) | walk1 | (dsimp only; walk1) | (leave1; try dsimp only) | fail "no step"))
  refine list_copyKT (by k_asm) (by k_asm) (by with_unfolding_all exact Fr.tup (by k_asm) (tupK (by k_asm) (by k_is))) ?_ (by decide +kernel)
  intro D9 c9 h9 F9 N9 l9
  (try dsimp only)
  (try k_fold)
  repeat' ((fail_if_success (with_reducible show wpAny _ _ (PySem.exec (PySem.Stmt.While _ _ _ _) _) _ _ _)); (fail_if_success (with_reducible show wpAny _ _ (PySem.pyIter _) _ _ _)); (fail_if_success (with_reducible show wpAny _ _ (PySem.call (PySem.Value.ref _) _ _) _ _ _)); (fail_if_success (with_reducible show InvEndN _ _ _ _ _ _ _)); (fail_if_success (with_reducible show KswEnd _ _ _ _ _ _ _ _ _ _ _ _)); (first | (k_unfold; (try dsimp only)) | (k_end; wrow_close) | walk1 | (dsimp only; walk1) | (leave1; try dsimp only) | fail "no step"))
  refine p_execs_later ?_
  repeat' ((fail_if_success (with_reducible show wpAny _ _ (PySem.exec (PySem.Stmt.While _ _ _ _) _) _ _ _)); (fail_if_success (with_reducible show wpAny _ _ (PySem.pyIter _) _ _ _)); (fail_if_success (with_reducible show wpAny _ _ (PySem.call (PySem.Value.ref _) _ _) _ _ _)); (fail_if_success (with_reducible show InvEndN _ _ _ _ _ _ _)); (fail_if_success (with_reducible show KswEnd _ _ _ _ _ _ _ _ _ _ _ _)); (first | (k_unfold; (try dsimp only)) | (k_end; wrow_close) | walk1 | (dsimp only; walk1) | (leave1; try dsimp only) | fail "no step"))
  (rename Fr _ _ _ _ => F9); (rename News _ _ _ _ => N9); (rename IntsAre _ _ => hi9); (rename Frag.In _ _ => X9); (rename Top _ _ _ _ _ _ => T9); (rename PySem.Heap.IsList _ _ _ => hl9)
  have hrl : recursionLimit = 1000 := rfl
  have hcl : cLine = 9900 := rfl
  have hsz := PySem.sizeLine_eq
  refine' kst_list (fun (c : List Value × Nat) => [(D9, listOf c.1.toArray c.2)]) (fun _ => []) (fun _ => True) [Str.ofString "whole"] (fun pre (c : List Value × Nat) => c.1.length = 11 + 2 * pre.length ∧ ∀ v ∈ c.1, ∃ (x : Str) (t : Tok), v = .str x t ∧ TextOk x) (⟨_, c9⟩ : List Value × Nat) rfl hl9 hi9 F9 N9 trivial (List.forall_mem_nil _) ?hp ?turn ?done
  case hp =>
    refine ⟨rfl, ?_⟩
    intro v hv
    simp only [List.mem_cons, List.not_mem_nil, or_false] at hv
    rcases hv with rfl | rfl | rfl | rfl | rfl | rfl | rfl | rfl | rfl | rfl | rfl <;> exact ⟨_, _, rfl, typed_ok _ (by simp only [List.mem_cons, true_or, or_true])⟩
  case turn =>
    rintro ⟨us, uc⟩ pre post n tk0 u hT tkT own hns hnm hoff - ⟨hP1, hP2⟩ FT NT
    have hP1 : us.length = 11 + 2 * pre.length := hP1
    have hP2 : ∀ v ∈ us, ∃ (x : Str) (t : Tok), v = .str x t ∧ TextOk x := hP2
    have hnl := congrArg List.length hns
    rw [List.length_append, List.length_cons] at hnl
    have hul : us.length ≤ 200 := by omega
    have hso : us.toArray.size ≤ sizeLine := by rw [List.size_toArray]; omega
    have hap : ∀ p ∈ own, p.1 ≠ D9 := hoff.ne (.head _)
    obtain ⟨p9, hp9, q9, hq9, hw9⟩ := whole_cps ((n.fdiv 3872).fmod 128) n (n.fdiv 22)
    (try dsimp only at FT NT)
    (try k_fold)
    repeat' ((fail_if_success (with_reducible show wpAny _ _ (PySem.exec (PySem.Stmt.While _ _ _ _) _) _ _ _)); (fail_if_success (with_reducible show wpAny _ _ (PySem.pyIter _) _ _ _)); (fail_if_success (with_reducible show wpAny _ _ (PySem.call (PySem.Value.ref _) _ _) _ _ _)); (fail_if_success (with_reducible show InvEndN _ _ _ _ _ _ _)); (fail_if_success (with_reducible show KswEnd _ _ _ _ _ _ _ _ _ _ _ _)); (first | ((with_reducible show wpAny _ _ (PySem.execs (_ :: _) _) _ _ _); refine wpAny_execs_cons ?_; (try (conv => arg 6; dsimp only))) | (k_unfold; (try dsimp only)) | (k_end; wrow_close) | (walk1; (all_goals (try (conv => arg 6; dsimp only)))) | (dsimp only; walk1) | (leave1; try dsimp only) | fail "no step"))
    dsimp only
    refine' append_K ?k1 ?k2 ?k3 ?_ ?z
    case k1 => k_asm
    case k2 => k_asm
    case k3 => k_upd
    case z => size_fits
    intro h5 F5 N5
    (try k_sweep)
    (try dsimp only)
    (try k_fold)
    repeat' ((fail_if_success (with_reducible show wpAny _ _ (PySem.exec (PySem.Stmt.While _ _ _ _) _) _ _ _)); (fail_if_success (with_reducible show wpAny _ _ (PySem.pyIter _) _ _ _)); (fail_if_success (with_reducible show wpAny _ _ (PySem.call (PySem.Value.ref _) _ _) _ _ _)); (fail_if_success (with_reducible show InvEndN _ _ _ _ _ _ _)); (fail_if_success (with_reducible show KswEnd _ _ _ _ _ _ _ _ _ _ _ _)); (first | ((with_reducible show wpAny _ _ (PySem.execs (_ :: _) _) _ _ _); refine wpAny_execs_cons ?_; (try (conv => arg 6; dsimp only))) | (k_unfold; (try dsimp only)) | (k_end; wrow_close) | (walk1; (all_goals (try (conv => arg 6; dsimp only)))) | (dsimp only; walk1) | (leave1; try dsimp only) | fail "no step"))
    dsimp only
    refine' append_K ?k1 ?k2 ?k3 ?_ ?z
    case k1 => k_asm
    case k2 => k_asm
    case k3 => k_upd
    case z => size_fits
    intro h6 F6 N6
    (try k_sweep)
    (try dsimp only)
    (try k_fold)
    repeat' ((fail_if_success (with_reducible show wpAny _ _ (PySem.exec (PySem.Stmt.While _ _ _ _) _) _ _ _)); (fail_if_success (with_reducible show wpAny _ _ (PySem.pyIter _) _ _ _)); (fail_if_success (with_reducible show wpAny _ _ (PySem.call (PySem.Value.ref _) _ _) _ _ _)); (fail_if_success (with_reducible show InvEndN _ _ _ _ _ _ _)); (fail_if_success (with_reducible show KswEnd _ _ _ _ _ _ _ _ _ _ _ _)); (first | ((with_reducible show wpAny _ _ (PySem.execs (_ :: _) _) _ _ _); refine wpAny_execs_cons ?_; (try (conv => arg 6; dsimp only))) | (k_unfold; (try dsimp only)) | (k_end; wrow_close) | (walk1; (all_goals (try (conv => arg 6; dsimp only)))) | (dsimp only; walk1) | (leave1; try dsimp only) | fail "no step"))
    (rename Fr _ _ _ _ => FA); (rename News _ _ _ _ => NA)
    refine turn_end FA NA rfl ?_ ⟨?_, grows (grows hP2 ⟨_, _, rfl, text1_ok hw9 hp9 hq9 _⟩) ⟨_, _, rfl, text2_ok hw9 hp9 hq9⟩⟩
    · (intro z9 h19 h29 h39; (simp only [List.contains_cons, List.contains_nil, Bool.or_false, beq_eq_false_iff_ne, ne_eq] at h39); (simp [kstB, h19, h39]; done))
    · simp
      omega
  case done =>
    rintro ⟨us, uc⟩ u hT tkT - ⟨hP1, hP2⟩ FD ND
    have hP2 : ∀ v ∈ us, ∃ (x : Str) (t : Tok), v = .str x t ∧ TextOk x := hP2
    (try dsimp only at FD ND hP1)
    (try k_fold)
    (rename Fr _ _ _ _ => FL); (rename News _ _ _ _ => NL)
    have hlN : hT.IsList D9 us.toArray := ⟨_, (NL _ (.head _)).1, rfl, _, rfl⟩
    dsimp only
    refine p_execs (p_For ?_)
    repeat' ((fail_if_success (with_reducible show wpAny _ _ (PySem.exec (PySem.Stmt.While _ _ _ _) _) _ _ _)); (fail_if_success (with_reducible show wpAny _ _ (PySem.pyIter _) _ _ _)); (fail_if_success (with_reducible show wpAny _ _ (PySem.call (PySem.Value.ref _) _ _) _ _ _)); (fail_if_success (with_reducible show InvEndN _ _ _ _ _ _ _)); (fail_if_success (with_reducible show KswEnd _ _ _ _ _ _ _ _ _ _ _ _)); (first | ((with_reducible show wpAny _ _ (PySem.execs (_ :: _) _) _ _ _); refine wpAny_execs_cons ?_; (try (conv => arg 6; dsimp only))) | (k_unfold; (try dsimp only)) | (k_end; wrow_close) | (walk1; (all_goals (try (conv => arg 6; dsimp only)))) | (dsimp only; walk1) | (leave1; try dsimp only) | fail "no step"))
    refine p_list (l := D9) (vs := us) (fun i m => ∃ t, m (Str.ofString "seen") = some (.int (i : Int) t) ∧ m (Str.ofString "script") = some (.ref _)) rfl hlN (NL _ (.head _)).2.1 rfl rfl FL ⟨_, rfl, rfl⟩ ?turn2 ?done2
    case turn2 =>
      rintro E' i v m h7 tk7 own hv ⟨t7, hm1, hm2⟩ FT NT
      obtain ⟨x9, t9, rfl, hx9⟩ := hP2 v (List.mem_of_getElem? hv)
      have hone := oneOk_of hx9
      have hi7 := (List.getElem?_eq_some_iff.mp hv).1
      have FT7 := kst_fr (m₀ := m) (m₁ := m) (stored := []) (ps := [(Str.ofString "seen", _), (Str.ofString "script", _)]) (List.forall_mem_cons.mpr ⟨hm1, List.forall_mem_cons.mpr ⟨hm2, List.forall_mem_nil _⟩⟩) (fun _ _ _ _ => rfl) FT
      clear FT
      (try dsimp only at FT7 NT)
      (try dsimp only)
      (try k_fold)
      refine p_execs (p_If (p_isTrue_Not (p_isTrue_value (p_Call_Name ?_))))
      repeat' ((fail_if_success (with_reducible show wpAny _ _ (PySem.exec (PySem.Stmt.While _ _ _ _) _) _ _ _)); (fail_if_success (with_reducible show wpAny _ _ (PySem.pyIter _) _ _ _)); (fail_if_success (with_reducible show wpAny _ _ (PySem.call (PySem.Value.ref _) _ _) _ _ _)); (fail_if_success (with_reducible show InvEndN _ _ _ _ _ _ _)); (fail_if_success (with_reducible show KswEnd _ _ _ _ _ _ _ _ _ _ _ _)); (first | ((with_reducible show wpAny _ _ (PySem.execs (_ :: _) _) _ _ _); refine wpAny_execs_cons ?_; (try (conv => arg 6; dsimp only))) | (k_unfold; (try dsimp only)) | (k_end; wrow_close) | (walk1; (all_goals (try (conv => arg 6; dsimp only)))) | (dsimp only; walk1) | (leave1; try dsimp only) | fail "no step"))
      refine p_cw_def (K := hd.heap_39 w.params) (by k_is) (p_sp_one (wpP_of ?_))
      repeat' ((fail_if_success (with_reducible show wpAny _ _ (PySem.exec (PySem.Stmt.While _ _ _ _) _) _ _ _)); (fail_if_success (with_reducible show wpAny _ _ (PySem.pyIter _) _ _ _)); (fail_if_success (with_reducible show wpAny _ _ (PySem.call (PySem.Value.ref _) _ _) _ _ _)); (fail_if_success (with_reducible show InvEndN _ _ _ _ _ _ _)); (fail_if_success (with_reducible show KswEnd _ _ _ _ _ _ _ _ _ _ _ _)); (first | ((with_reducible show wpAny _ _ (PySem.execs (_ :: _) _) _ _ _); refine wpAny_execs_cons ?_; (try (conv => arg 6; dsimp only))) | (k_unfold; (try dsimp only)) | (k_end; wrow_close) | (walk1; (all_goals (try (conv => arg 6; dsimp only)))) | (dsimp only; walk1) | (leave1; try dsimp only) | fail "no step"))
      (rename Fr _ _ _ _ => F5); (rename News _ _ _ _ => N5)
      refine one_ctrP _ _ _ _ _ _ hone _ _ _ _ _ _ _ _ _ _ _ F5 (K9_in X9) N5 T9 rfl ?_
      intro t8 h8 tk8 F6 N6
      (try dsimp only)
      (try k_fold)
      repeat' ((fail_if_success (with_reducible refine Exists.intro ?_ ?_)); (fail_if_success (with_reducible show wpAny _ _ (PySem.exec (PySem.Stmt.While _ _ _ _) _) _ _ _)); (fail_if_success (with_reducible show wpAny _ _ (PySem.pyIter _) _ _ _)); (fail_if_success (with_reducible show wpAny _ _ (PySem.call (PySem.Value.ref _) _ _) _ _ _)); (fail_if_success (with_reducible show InvEndN _ _ _ _ _ _ _)); (fail_if_success (with_reducible show KswEnd _ _ _ _ _ _ _ _ _ _ _ _)); (first | ((with_reducible show wpAny _ _ (PySem.execs (_ :: _) _) _ _ _); refine wpAny_execs_cons ?_; (try (conv => arg 6; dsimp only))) | (k_unfold; (try dsimp only)) | (k_end; wrow_close) | (walk1; (all_goals (try (conv => arg 6; dsimp only)))) | (dsimp only; walk1) | (leave1; try dsimp only) | fail "no step"))
      (rename Fr _ _ _ _ => FZ); (rename News _ _ _ _ => NZ)
      exact ⟨_, _, _, rfl, FZ, NZ, _, by with_unfolding_all rfl, by with_unfolding_all rfl⟩
    case done2 =>
      rintro m h7 tk7 ⟨t7, hm1, hm2⟩ FT
      have FT7 := kst_frOut (m₀ := m) (m₁ := m) (x := Str.ofString "text") (stored := []) (ps := [(Str.ofString "seen", _), (Str.ofString "script", _)]) (List.forall_mem_cons.mpr ⟨hm1, List.forall_mem_cons.mpr ⟨hm2, List.forall_mem_nil _⟩⟩) (fun _ _ _ _ => rfl) FT
      clear FT
      have N7 := (News.nil : News _ _ _ []).at FT7
      (try dsimp only at FT7 N7)
      (try dsimp only)
      (try k_fold)
      repeat' ((fail_if_success (with_reducible show wpAny _ _ (PySem.exec (PySem.Stmt.While _ _ _ _) _) _ _ _)); (fail_if_success (with_reducible show wpAny _ _ (PySem.pyIter _) _ _ _)); (fail_if_success (with_reducible show wpAny _ _ (PySem.call (PySem.Value.ref _) _ _) _ _ _)); (fail_if_success (with_reducible show InvEndN _ _ _ _ _ _ _)); (fail_if_success (with_reducible show KswEnd _ _ _ _ _ _ _ _ _ _ _ _)); (first | ((with_reducible show wpAny _ _ (PySem.execs (_ :: _) _) _ _ _); refine wpAny_execs_cons ?_; (try (conv => arg 6; dsimp only))) | (k_unfold; (try dsimp only)) | (k_end; wrow_close) | (walk1; (all_goals (try (conv => arg 6; dsimp only)))) | (dsimp only; walk1) | (leave1; try dsimp only) | fail "no step"))
end Mine
end PartJ1
set_option maxRecDepth 100000 in
set_option maxHeartbeats 8000000 in
theorem PySem.Challenge.cw_dm5002_01_holds : PySem.Challenge.rw_dm5002_01.Holds := by
  exact Mine.law_holds
