import PyProof.Rows.All
import Wide.All
import OpenK.AllK
import Wide.FinOn
import PyProof.StrLawsReplace
import PyProof.ToksMono
import Lean
import PySem.Challenge.RW_dm5002_02
set_option Elab.async false
set_option maxRecDepth 100000
set_option maxHeartbeats 8000000
set_option linter.unusedSimpArgs false
section PartH02
open PySem PySem.W PyProof.Rows
set_option maxRecDepth 100000
set_option maxHeartbeats 8000000
namespace Mine
open_top hd for PySem.Challenge.rw_dm5002_02
end Mine
end PartH02
section PartS
open PySem PySem.W PyProof.Rows PySem.Spec PySem.Calls
set_option maxRecDepth 100000
set_option maxHeartbeats 4000000
namespace Mine
def isHex (c : Nat) : Bool := (48 ≤ c && c ≤ 57) || (97 ≤ c && c ≤ 102) || (65 ≤ c && c ≤ 70)
def hv (c : Nat) : Nat := if c ≤ 57 then c - 48 else if c ≤ 70 then c - 55 else c - 87

/-- what decode makes of a stripped line, the line's end included -/
def lineGo : List Nat → List Nat
  | [] => [10]
  | [61] => []
  | 61 :: a :: b :: r => if isHex a && isHex b then (16 * hv a + hv b) :: lineGo r else 61 :: lineGo (a :: b :: r)
  | c :: r => c :: lineGo r

theorem lineGo_len : ∀ l : List Nat, (lineGo l).length ≤ l.length + 1 := by
  intro l
  fun_induction lineGo l <;> simp_all <;> omega

def goS (l : Str) : List Nat := lineGo (Txt.rstrip l).cps.toList
theorem goS_len (l : Str) : (goS l).length ≤ l.length + 1 := by
  have h1 := lineGo_len (Txt.rstrip l).cps.toList
  have h2 := len_rstrip l
  have h3 : (Txt.rstrip l).cps.toList.length = (Txt.rstrip l).length := Array.length_toList
  unfold goS
  omega

theorem goS_all : ∀ ls : List Str, (ls.flatMap goS).length ≤ (ls.map (·.length)).sum + ls.length
  | [] => Nat.le_refl _
  | l :: r => by
    have h1 := goS_len l
    have h2 := goS_all r
    simp only [List.flatMap_cons, List.length_append, List.map_cons, List.sum_cons, List.length_cons]
    omega
theorem take_sum : ∀ (ls : List Str) (i : Nat), ((ls.take i).map (·.length)).sum + (ls.take i).length ≤ (ls.map (·.length)).sum + ls.length
  | [], i => by simp
  | l :: r, 0 => by simp
  | l :: r, i + 1 => by
    have h := take_sum r i
    simp only [List.take_succ_cons, List.map_cons, List.sum_cons, List.length_cons]
    omega
theorem goS_take (x : Str) (i : Nat) : (((Txt.lines x).take i).flatMap goS).length ≤ x.length + 1 :=
  Nat.le_trans (goS_all _) (Nat.le_trans (take_sum _ _) (StrLaws.lines_weight x))

/-- what decode gives -/
def decL (x : Str) : List Nat :=
  if x.length = 0 then [] else
  let d := (Txt.lines x).flatMap goS
  if (x.cps.toList.getLast? ≠ some 13 ∧ x.cps.toList.getLast? ≠ some 10) ∧ d.getLast? = some 10 then d.dropLast else d
def decS (x : Str) : Str := ⟨(decL x).toArray⟩
end Mine
end PartS
section PartL
open PySem PySem.W PyProof.Rows PySem.Spec PySem.Calls
set_option maxRecDepth 100000
set_option maxHeartbeats 4000000
namespace Mine

/-- what holds behind i items of a loop over a list of any values -/
def KvS {σ : Type} (Led : σ → List (Addr × Obj)) (ps : σ → List (Str × Value)) (x : Str) (stored : List Str) (m₀ : Str → Option Value) (P : Nat → σ → Prop) (i : Nat) (m : Str → Option Value) (nx : List (Addr × Obj)) : Prop :=
  ∃ c : σ, nx = Led c ∧ (∀ p ∈ ps c, m p.1 = some p.2) ∧ (∀ z, z ≠ x → (∀ p ∈ ps c, z ≠ p.1) → stored.contains z = false → m z = m₀ z) ∧ P i c

section
variable {prog : Program} {w : World} {A : Around} {E : Value → Shared → Prop} {s : Shared} {env : Env} {h₀ : Heap} {x : Str} {body : List Stmt} {Q : Flow → Shared → Prop}

theorem kv_list {σ : Type} {l : Addr} {vs : List Value} {m₀ : Str → Option Value} (Led : σ → List (Addr × Obj)) (ps : σ → List (Str × Value)) (stored : List Str) (P : Nat → σ → Prop) (c₀ : σ)
    (hh : A.handled = none) (hls : s.heap.IsList l vs.toArray) (hlL : l ≠ env.locals) (hln : ∀ q ∈ Led c₀, q.1 ≠ l) (F : Fr h₀ env.locals s.heap m₀) (N : News h₀ env.locals s.heap (Led c₀)) (hk : ∀ p ∈ ps c₀, m₀ p.1 = some p.2) (hp : P 0 c₀)
    (turn : ∀ (c : σ) i v (u : Str → Option Value) h tk own, vs[i]? = some v → OwnOff own ((Led c₀).map (·.1)) → P i c →
      Fr h₀ env.locals h (fun y => if y = x then some v else kstB (fun z => if stored.contains z then u z else m₀ z) (ps c) y) → News h₀ env.locals h (Led c ++ own) →
      wpAny (model prog w) A (execs body env) (InvPostN h₀ env.locals (KvS Led ps x stored m₀ P (i + 1)) own ((Led c₀).map (·.1)) { s with heap := h, toks := tk } Q) E { s with heap := h, toks := tk })
    (done : ∀ (c : σ) (u : Str → Option Value) h tk, P vs.length c → Fr h₀ env.locals h (fun y => if y = x then u y else kstB (fun z => if stored.contains z then u z else m₀ z) (ps c) y) → News h₀ env.locals h (Led c) → Q .next { s with heap := h, toks := tk }) :
    wpAny (model prog w) A (pyIter (.ref l)) (fun it s₂ => LoopAtV prog w A h₀ env x body Q E it s₂) E s := by
  obtain ⟨ol, hol, hcls⟩ := id hls
  have hlt : l < s.heap.objs.size := Heap.lt_size hol
  have hne : l ≠ s.heap.objs.size := Nat.ne_of_lt hlt
  refine wpAny_pyIter_list hls ?_
  have W := Walks.list (prog := prog) (w := w) hh s.heap.objs.size l hne vs.toArray
  have hlen : vs.toArray.size = vs.length := List.size_toArray
  rw [hlen] at W
  refine loop_invN (fun i m nx => KvS Led ps x stored m₀ P i m nx) W ?_ ?_ ?_ ?_ ⟨⟨_, Heap.get?_push_size _ rfl, rfl, rfl⟩, hls.at fun o e => Heap.get?_push_of_some _ e⟩ (F.push _) (fun p hp => ⟨Heap.get?_push_of_some _ (N p hp).1, (N p hp).2⟩) ⟨c₀, rfl, hk, fun _ _ _ _ => rfl, hp⟩ ?_ ?_
  · intro hm
    rcases List.mem_cons.mp hm with e | hm
    · exact absurd F.ns.lt (e ▸ Nat.lt_irrefl _)
    · exact hlL (List.mem_singleton.mp hm).symm
  · intro b hb
    rw [List.mem_singleton.mp hb]
    exact next_is_new F
  · intro p hp hI
    exact absurd (Heap.lt_size (N p hp).1) ((List.mem_singleton.mp hI) ▸ Nat.lt_irrefl _)
  · intro q hq hm
    rcases List.mem_cons.mp hm with e | hm
    · exact absurd (Heap.lt_size (N q hq).1) (e ▸ Nat.lt_irrefl _)
    · exact hln q hq (List.mem_singleton.mp hm)
  · rintro i v m₁ news₁ h tk own hin hP hadr hoff ⟨c, rfl, h1, h2, hp'⟩ F₁ N₁
    exact turn c i v m₁ h tk own (by simpa using hP) hoff hp' (kst_fr h1 h2 F₁) N₁
  · rintro m₁ nx h tk ⟨c, rfl, h1, h2, hp'⟩ F₁ N₁
    exact done c m₁ h tk hp' (kst_frOut h1 h2 F₁) N₁

theorem kv_end {σ : Type} {Led : σ → List (Addr × Obj)} {ps : σ → List (Str × Value)} {stored : List Str} {m₀ : Str → Option Value} {P : Nat → σ → Prop} {i : Nat} (c : σ) {L : Addr} {m' : Str → Option Value} {own news' : List (Addr × Obj)} {adr : List Addr} {s₁ : Shared} {h' : Heap} {tk : Nat}
    (F : Fr h₀ L h' m') (N : News h₀ L h' news') (hn : ∀ p ∈ Led c, p ∈ news') (ho : ∀ p ∈ own, p ∈ news') (ha : (Led c).map (·.1) = adr) (hk : ∀ p ∈ ps c, m' p.1 = some p.2) (hr : ∀ z, z ≠ x → (∀ p ∈ ps c, z ≠ p.1) → stored.contains z = false → m' z = m₀ z) (hp : P i c) :
    InvEndN h₀ L (KvS Led ps x stored m₀ P i) own adr s₁ { s₁ with heap := h', toks := tk } :=
  InvEndN.intro F N ⟨c, rfl, hk, hr, hp⟩ ha hn ho
end
end Mine
end PartL
section PartLT
open PySem PySem.W PyProof.Rows PySem.Spec PySem.Calls
set_option maxRecDepth 100000
set_option maxHeartbeats 4000000
namespace Mine
section
variable {prog : Program} {w : World} {A : Around} {E : Value → Shared → Prop} {s : Shared} {env : Env} {h₀ : Heap} {x : Str} {body : List Stmt} {Q : Flow → Shared → Prop}
theorem kv_tuple {σ : Type} {l : Addr} {vs : List Value} {m₀ : Str → Option Value} (Led : σ → List (Addr × Obj)) (ps : σ → List (Str × Value)) (stored : List Str) (P : Nat → σ → Prop) (c₀ : σ)
    (hh : A.handled = none) (hls : s.heap.IsTuple l vs.toArray) (hlL : l ≠ env.locals) (hln : ∀ q ∈ Led c₀, q.1 ≠ l) (F : Fr h₀ env.locals s.heap m₀) (N : News h₀ env.locals s.heap (Led c₀)) (hk : ∀ p ∈ ps c₀, m₀ p.1 = some p.2) (hp : P 0 c₀)
    (turn : ∀ (c : σ) i v (u : Str → Option Value) h tk own, vs[i]? = some v → OwnOff own ((Led c₀).map (·.1)) → P i c →
      Fr h₀ env.locals h (fun y => if y = x then some v else kstB (fun z => if stored.contains z then u z else m₀ z) (ps c) y) → News h₀ env.locals h (Led c ++ own) →
      wpAny (model prog w) A (execs body env) (InvPostN h₀ env.locals (KvS Led ps x stored m₀ P (i + 1)) own ((Led c₀).map (·.1)) { s with heap := h, toks := tk } Q) E { s with heap := h, toks := tk })
    (done : ∀ (c : σ) (u : Str → Option Value) h tk, P vs.length c → Fr h₀ env.locals h (fun y => if y = x then u y else kstB (fun z => if stored.contains z then u z else m₀ z) (ps c) y) → News h₀ env.locals h (Led c) → Q .next { s with heap := h, toks := tk }) :
    wpAny (model prog w) A (pyIter (.ref l)) (fun it s₂ => LoopAtV prog w A h₀ env x body Q E it s₂) E s := by
  obtain ⟨ol, hol, hcls⟩ := id hls
  have hlt : l < s.heap.objs.size := Heap.lt_size hol
  have hne : l ≠ s.heap.objs.size := Nat.ne_of_lt hlt
  refine wpAny_pyIter_tuple hls ?_
  have W := Walks.tuple (prog := prog) (w := w) hh s.heap.objs.size l hne vs.toArray
  have hlen : vs.toArray.size = vs.length := List.size_toArray
  rw [hlen] at W
  refine loop_invN (fun i m nx => KvS Led ps x stored m₀ P i m nx) W ?_ ?_ ?_ ?_ ⟨⟨_, Heap.get?_push_size _ rfl, rfl, rfl⟩, hls.at fun o e => Heap.get?_push_of_some _ e⟩ (F.push _) (fun p hp => ⟨Heap.get?_push_of_some _ (N p hp).1, (N p hp).2⟩) ⟨c₀, rfl, hk, fun _ _ _ _ => rfl, hp⟩ ?_ ?_
  · intro hm
    rcases List.mem_cons.mp hm with e | hm
    · exact absurd F.ns.lt (e ▸ Nat.lt_irrefl _)
    · exact hlL (List.mem_singleton.mp hm).symm
  · intro b hb
    rw [List.mem_singleton.mp hb]
    exact next_is_new F
  · intro p hp hI
    exact absurd (Heap.lt_size (N p hp).1) ((List.mem_singleton.mp hI) ▸ Nat.lt_irrefl _)
  · intro q hq hm
    rcases List.mem_cons.mp hm with e | hm
    · exact absurd (Heap.lt_size (N q hq).1) (e ▸ Nat.lt_irrefl _)
    · exact hln q hq (List.mem_singleton.mp hm)
  · rintro i v m₁ news₁ h tk own hin hP hadr hoff ⟨c, rfl, h1, h2, hp'⟩ F₁ N₁
    exact turn c i v m₁ h tk own (by simpa using hP) hoff hp' (kst_fr h1 h2 F₁) N₁
  · rintro m₁ nx h tk ⟨c, rfl, h1, h2, hp'⟩ F₁ N₁
    exact done c m₁ h tk hp' (kst_frOut h1 h2 F₁) N₁
theorem kt_plain {l : Addr} {vs : List Value} {m₀ : Str → Option Value} {news : List (Addr × Obj)} (stored : List Str)
    (hh : A.handled = none) (hls : s.heap.IsTuple l vs.toArray) (hlL : l ≠ env.locals) (hln : ∀ q ∈ news, q.1 ≠ l) (F : Fr h₀ env.locals s.heap m₀) (N : News h₀ env.locals s.heap news)
    (turn : ∀ i v (u : Str → Option Value) h tk own, vs[i]? = some v →
      Fr h₀ env.locals h (fun y => if y = x then some v else kstB (fun z => if stored.contains z then u z else m₀ z) [] y) → News h₀ env.locals h (news ++ own) →
      wpAny (model prog w) A (execs body env) (InvPostN h₀ env.locals (KvS (fun _ : Unit => news) (fun _ => []) x stored m₀ (fun _ _ => True) (i + 1)) own (news.map (·.1)) { s with heap := h, toks := tk } Q) E { s with heap := h, toks := tk })
    (done : ∀ (u : Str → Option Value) h tk, Fr h₀ env.locals h (fun y => if y = x then u y else kstB (fun z => if stored.contains z then u z else m₀ z) [] y) → News h₀ env.locals h news → Q .next { s with heap := h, toks := tk }) :
    wpAny (model prog w) A (pyIter (.ref l)) (fun it s₂ => LoopAtV prog w A h₀ env x body Q E it s₂) E s :=
  kv_tuple (fun _ : Unit => news) (fun _ => []) stored (fun _ _ => True) () hh hls hlL hln F N (fun _ h => nomatch h) trivial (fun _ i v u h tk own e _ _ F N => turn i v u h tk own e F N) (fun _ u h tk _ F N => done u h tk F N)
theorem news_tail {h₀ : Heap} {L : Addr} {h : Heap} {p : Addr × Obj} {r : List (Addr × Obj)} (N : News h₀ L h (p :: r)) : News h₀ L h r := fun q hq => N q (.tail _ hq)
theorem tup_of {h₀ : Heap} {L : Addr} {h : Heap} {a : Addr} {vs : List Value} {r : List (Addr × Obj)} (N : News h₀ L h ((a, { cls := .type "tuple", data := .seq vs.toArray }) :: r)) : h.IsTuple a vs.toArray := ⟨_, (N _ (.head _)).1, rfl, _, rfl⟩
end
end Mine
end PartLT
section PartI
open PySem PySem.W PyProof.Rows PySem.Spec PySem.Calls PySem.NumText
set_option maxRecDepth 100000
set_option maxHeartbeats 4000000
namespace Mine

structure Keep (p : Prop) : Prop where
  out : p

theorem wp_text16 {M : Model} {A : Around} {E : Value → Shared → Prop} {s : Shared} {Q : Value → Shared → Prop} {v : Value} {text : List Nat} {n : Int}
    (hs : (text.takeWhile (· != 0)).length ≤ 640) (hr : (int_private% "readNumeral") 0 16 (text.takeWhile (· != 0)) = (int_private% "Numeral.value") n)
    (ha : ((text.takeWhile (· != 0)).length == text.length) = true) (h : Q (.int n s.toks) { s with toks := s.toks + 1 }) :
    wpAny M A ((int_private% "intFromText") v text 16) Q E s := by
  obtain ⟨hp, g, d, tk, os⟩ := s
  repeat (any_goals (first
    | assumption
    | (with_reducible refine wpAny_ite_true (decide_eq_true hs) ?_)
    | (with_reducible refine wpAny_ite_true (decide_eq_true ha) ?_)
    | wp_step))
  all_goals (try rw [hr])
  all_goals (try dsimp only)
  repeat (any_goals (first
    | assumption
    | (with_reducible refine wpAny_ite_true (decide_eq_true hs) ?_)
    | (with_reducible refine wpAny_ite_true (decide_eq_true ha) ?_)
    | wp_step))

theorem gives_text16 {x : PySem.Str} {u k : Tok} {n : Int} (hs : (numSeenOf x).length ≤ 640) (hr : (int_private% "readNumeral") 0 16 (numSeenOf x) = (int_private% "Numeral.value") n)
    (ha : ((numSeenOf x).length == (numTextOf x).length) = true) : Gives (Builtin.«int.__new__» ⟨[.type "int", .str x u, .int 16 k], []⟩) (.int n) :=
  .of_wp fun M A E s Q h => by
    obtain ⟨hp, g, d, tk, os⟩ := s
    have f1 := F.conv_sub_int
    have f2 := F.madeHere_int
    have f6 : typeOf (.str x u) = pure (.type "str") := rfl
    have hk := Keep.mk (And.intro hs (And.intro hr ha))
    clear hs hr ha
    repeat (any_goals (first
      | assumption
      | ((with_reducible show wpAny _ _ ((int_private% "intFromText") _ _ _) _ _ _); refine wp_text16 hk.out.1 hk.out.2.1 hk.out.2.2 ?_)
      | wp_step))
    all_goals exact ⟨_, rfl, h⟩

theorem typeCall_int_2 (a b : Value) : checkTypeCall "int" ⟨[a, b], []⟩ = pure () := by kernel_rfl
theorem newCall_int_2 (a b : Value) : checkBuiltinCall "int.__new__" ⟨[.type "int", a, b], []⟩ = pure () := by kernel_rfl

theorem call_int16 {prog : Program} {w : World} {A : Around} {E : Value → Shared → Prop} {s : Shared} {Q : Value → Shared → Prop} {x : PySem.Str} {t k : Tok} {n : Int}
    (hs : (numSeenOf x).length ≤ 640) (hr : (int_private% "readNumeral") 0 16 (numSeenOf x) = (int_private% "Numeral.value") n)
    (ha : ((numSeenOf x).length == (numTextOf x).length) = true) (h : Q (.int n s.toks) { s with toks := s.toks + 1 }) :
    wpAny (model prog w) A (call (.type "int") [.str x t, .int 16 k]) Q E s :=
  callType_new F.called_int F.newNe_int (typeCall_int_2 _ _) (newCall_int_2 _ _) (fun obj => F.args_object_init_3 obj _ _) F.entry_int_new (gives_text16 hs hr ha).meets (show (Made.int n).post _ s from ⟨rfl, h⟩)
end Mine
namespace Mine
/-- what int(text, 16) reads: the number, or nothing -/
def num16 (t : List Nat) : Option Int :=
  match digits? (based 16 (sign (t.dropWhile blank)).2).1 (((based 16 (sign (t.dropWhile blank)).2).2.2.reverse.dropWhile blank).reverse) with
  | none => none
  | some ds => some (if (sign (t.dropWhile blank)).1 then -((ds.foldl (fun acc d => acc * (based 16 (sign (t.dropWhile blank)).2).1 + d) 0 : Nat) : Int) else ((ds.foldl (fun acc d => acc * (based 16 (sign (t.dropWhile blank)).2).1 + d) 0 : Nat) : Int))

theorem based16 (t : List Nat) : (based 16 t).1 = 16 ∧ (based 16 t).2.1 = false := by
  unfold based
  split
  · split
    · rename_i p hp h
      simp at h
      exact ⟨h.symm, rfl⟩
    · exact ⟨rfl, rfl⟩
  · exact ⟨rfl, rfl⟩

theorem read16 (t : List Nat) : (int_private% "readNumeral") 0 16 t = match num16 t with | some n => (int_private% "Numeral.value") n | none => int_private% "Numeral.invalid" := by
  rw [readNumeral_eq]
  obtain ⟨h1, h2⟩ := based16 (sign (t.dropWhile blank)).2
  unfold num16
  rw [h2]
  cases hd : digits? (based 16 (sign (t.dropWhile blank)).2).1 (((based 16 (sign (t.dropWhile blank)).2).2.2.reverse.dropWhile blank).reverse) with
  | none => rfl
  | some ds =>
    rw [h1]
    unfold judge
    have e1 : (![2, 4, 8, 16, 32].contains 16 && (0 : Nat) != 0 && decide (ds.size > 0)) = false := by
      simp
    have e2 : ((16 : Nat) == 10 && decide (ds.size > 6000)) = false := by simp
    dsimp only
    rw [if_neg (by rw [e1]; exact Bool.false_ne_true), if_neg (by rw [e2]; exact Bool.false_ne_true)]
    rfl

def int16? (x : PySem.Str) : Option Int := if (numSeenOf x).length = (numTextOf x).length then num16 (numSeenOf x) else none

theorem call_int16_some {prog : Program} {w : World} {A : Around} {E : Value → Shared → Prop} {s : Shared} {Q : Value → Shared → Prop} {x : PySem.Str} {t k : Tok} {n : Int}
    (hn : int16? x = some n) (hl : x.length ≤ 640) (h : Q (.int n s.toks) { s with toks := s.toks + 1 }) :
    wpAny (model prog w) A (call (.type "int") [.str x t, .int 16 k]) Q E s := by
  unfold int16? at hn
  split at hn
  · rename_i he
    refine call_int16 (Nat.le_trans (seen_length x) hl) ?_ (by rw [he]; exact beq_self_eq_true _) h
    rw [read16, hn]
  · cases hn
end Mine
end PartI
section PartW
open PySem PySem.W PyProof.Rows PySem.Spec PySem.Calls PySem.Builtin.Str
set_option maxRecDepth 100000
set_option maxHeartbeats 4000000
namespace Mine
theorem cps_length (x : Str) : x.cps.toList.length = x.length := Array.length_toList
theorem str_ext {a b : Str} (h : a.cps.toList = b.cps.toList) : a = b := by
  obtain ⟨⟨a⟩⟩ := a; obtain ⟨⟨b⟩⟩ := b; simpa using h
theorem cat_cps (a b : Str) : (a ++ b).cps.toList = a.cps.toList ++ b.cps.toList := Array.toList_append
theorem nl_cps : (Str.ofString "\n").cps.toList = [10] := by decide +kernel

def clipN (v : Option Int) (d n : Nat) : Nat := match v with
  | none => d
  | some i => (max 0 (min (if i < 0 then i + n else i) (n : Int))).toNat
theorem clipN_le {v : Option Int} {d n : Nat} (hd : d ≤ n) : clipN v d n ≤ n := by
  unfold clipN; split <;> omega
theorem range_map (lo hi : Nat) : sliceRange (lo : Int) (hi : Int) 1 = (List.range (hi - lo)).map (fun k => lo + k) := by
  unfold sliceRange
  have e : (if (1 : Int) > 0 then (if (lo : Int) < (hi : Int) then ((hi : Int) - lo + 1 - 1) / 1 else 0) else (if (lo : Int) > (hi : Int) then ((lo : Int) - hi - 1 - 1) / (-1) else 0)).toNat = hi - lo := by
    rw [if_pos (by decide)]
    split <;> omega
  simp only [e]
  refine List.map_congr_left fun k _ => ?_
  omega
theorem indices_eq (l u : Option Int) (n : Nat) : strSliceIndices l u 1 n = (List.range (clipN u n n - clipN l 0 n)).map (fun k => clipN l 0 n + k) := by
  rw [← range_map]
  unfold strSliceIndices clipN
  cases l <;> cases u <;> simp only [show ((1 : Int) > 0) = True from by simp, if_true] <;> congr 1 <;> omega
theorem slice_cps (x : Str) (l u : Option Int) : (Txt.slice x l u).cps.toList = (x.cps.toList.take (clipN u x.length x.length)).drop (clipN l 0 x.length) := by
  have h1 : clipN u x.length x.length ≤ x.length := clipN_le (Nat.le_refl _)
  have h2 : clipN l 0 x.length ≤ x.length := clipN_le (Nat.zero_le _)
  have hl := cps_length x
  unfold Txt.slice
  rw [indices_eq]
  split
  · rename_i hc
    simp only [beq_self_eq_true, Bool.true_and, List.length_map, List.length_range, beq_iff_eq] at hc
    have e1 : clipN u x.length x.length = x.length := by omega
    by_cases h0 : x.length = 0
    · have e2 : x.cps.toList = [] := List.length_eq_zero_iff.mp (by omega)
      rw [e2]; simp
    · have e2 : clipN l 0 x.length = 0 := by omega
      rw [e1, e2, ← hl, List.take_length, List.drop_zero]
  · show ((List.range (clipN u x.length x.length - clipN l 0 x.length)).map (fun k => clipN l 0 x.length + k)).filterMap (x.cps[·]?) = _
    by_cases hle : clipN l 0 x.length ≤ clipN u x.length x.length
    · have h := StrLaws.picks x.cps.toList (clipN u x.length x.length - clipN l 0 x.length) (clipN l 0 x.length) (by omega)
      rw [List.take_drop] at h
      rw [show clipN l 0 x.length + (clipN u x.length x.length - clipN l 0 x.length) = clipN u x.length x.length by omega] at h
      simpa using h
    · have e3 : clipN u x.length x.length - clipN l 0 x.length = 0 := by omega
      rw [e3]
      simp
      omega

theorem item_cps {x : Str} {i : Int} (h0 : 0 ≤ i) (h1 : i < x.length) : (Txt.item x i).cps.toList = [x.cps.toList[i.toNat]'(by rw [cps_length]; omega)] := by
  have hlt : i.toNat < x.cps.size := by
    have : x.cps.size = x.length := rfl
    omega
  unfold Txt.item Txt.charAt seqIndex?
  rw [if_neg (by omega : ¬ i < 0)]
  simp only [decide_eq_true h0, decide_eq_true h1, Bool.and_self, if_true, Option.bind_some]
  rw [Array.getElem?_eq_getElem hlt]
  simp
theorem item_neg {x : Str} {i : Int} (h0 : i < 0) (h1 : 0 ≤ i + x.length) : (Txt.item x i).cps.toList = [x.cps.toList[(i + x.length).toNat]'(by rw [cps_length]; omega)] := by
  have hlt : (i + x.length).toNat < x.cps.size := by
    have : x.cps.size = x.length := rfl
    omega
  unfold Txt.item Txt.charAt seqIndex?
  rw [if_pos h0]
  simp only [decide_eq_true h1, decide_eq_true (by omega : i + (x.length : Int) < x.length), Bool.and_self, if_true, Option.bind_some]
  rw [Array.getElem?_eq_getElem hlt]
  simp
theorem one_sign {y : Str} {c : Nat} (h : y.cps.toList = [c]) : y = ⟨#[c]⟩ := str_ext (by rw [h])

theorem hex_digits_cps : (Str.ofString "0123456789abcdefABCDEF").cps.toList = [48,49,50,51,52,53,54,55,56,57,97,98,99,100,101,102,65,66,67,68,69,70] := by decide +kernel
theorem mem_hex (c : Nat) : c ∈ [48,49,50,51,52,53,54,55,56,57,97,98,99,100,101,102,65,66,67,68,69,70] ↔ isHex c = true := by
  unfold isHex
  simp only [List.mem_cons, List.not_mem_nil, or_false, Bool.or_eq_true, Bool.and_eq_true, decide_eq_true_eq]
  omega
/-- the walk's test «one sign in hexdigits» -/
theorem occ_hex {y : Str} {c : Nat} (h : y.cps.toList = [c]) : (occurrences (Str.ofString "0123456789abcdefABCDEF") y 0 (Str.ofString "0123456789abcdefABCDEF").length 1).isEmpty = !(isHex c) := by
  have q := StrLaws.found_one (Str.ofString "0123456789abcdefABCDEF") c
  rw [one_sign h]
  rw [hex_digits_cps] at q
  have e : decide (c ∈ [48,49,50,51,52,53,54,55,56,57,97,98,99,100,101,102,65,66,67,68,69,70]) = isHex c := by
    have := mem_hex c
    cases hx : isHex c
    · rw [hx] at this; simp only [Bool.false_eq_true, iff_false] at this; exact decide_eq_false this
    · rw [hx] at this; simp only [iff_true] at this; exact decide_eq_true this
  rw [e] at q
  rw [← q, Bool.not_not]
theorem ne_sign {y : Str} {c d : Nat} (h : y.cps.toList = [c]) : (y != (⟨#[d]⟩ : Str)) = decide (c ≠ d) := by
  rw [one_sign h]
  by_cases hc : c = d
  · subst hc; simp
  · rw [decide_eq_true hc]
    simp only [bne_iff_ne, ne_eq]
    intro e
    injection e with e
    have := congrArg Array.toList e
    simp at this
    exact hc this
theorem eq_sign_lit : (Str.ofString "=") = (⟨#[61]⟩ : Str) := by decide +kernel

/-! ## the ways through a turn of decode's while -/
section
variable {L dd : Str} {j : Nat} {G : List Nat}
abbrev At (L dd : Str) (j : Nat) (G : List Nat) : Prop := (j < L.length ∧ dd.cps.toList ++ lineGo (L.cps.toList.drop j) = G) ∨ (j = L.length ∧ dd.cps.toList = G)

theorem At.left (h : At L dd j G) (hj : (j : Int) < (L.length : Int)) : dd.cps.toList ++ lineGo (L.cps.toList.drop j) = G := by
  rcases h with h | h
  · exact h.2
  · omega

theorem lineGo_cons {c : Nat} {r : List Nat} (h : c ≠ 61) : lineGo (c :: r) = c :: lineGo r := by
  rw [lineGo.eq_4]
  · exact fun e => absurd e h
  · exact fun _ _ _ e => absurd e h
theorem lineGo_eq1 {a : Nat} {r : List Nat} (h : isHex a = false) : lineGo (61 :: a :: r) = 61 :: lineGo (a :: r) := by
  cases r with
  | nil => rw [lineGo.eq_4] <;> simp
  | cons b r => rw [lineGo.eq_3, h]; simp
theorem lineGo_eq2 {a b : Nat} {r : List Nat} (h : isHex b = false) : lineGo (61 :: a :: b :: r) = 61 :: lineGo (a :: b :: r) := by
  rw [lineGo.eq_3, h]; simp
theorem lineGo_eq3 {a : Nat} : lineGo [61, a] = 61 :: lineGo [a] := by
  rw [lineGo.eq_4] <;> simp
theorem lineGo_oct {a b : Nat} {r : List Nat} (h1 : isHex a = true) (h2 : isHex b = true) : lineGo (61 :: a :: b :: r) = (16 * hv a + hv b) :: lineGo r := by
  rw [lineGo.eq_3, h1, h2]; simp

theorem emit_gen (hPW : At L dd j G) (hj : (j : Int) < (L.length : Int)) (h : lineGo (L.cps.toList.drop j) = (L.cps.toList[j]'(by rw [cps_length]; omega)) :: lineGo (L.cps.toList.drop (j + 1))) :
    (dd ++ Txt.item L (j : Int)).cps.toList ++ lineGo (L.cps.toList.drop (j + 1)) = G := by
  have h1 := hPW.left hj
  rw [h] at h1
  rw [cat_cps, item_cps (by omega) hj]
  simpa using h1
theorem end_gen {z : Str} (he : (j : Int) + 1 = (L.length : Int)) (h : z.cps.toList ++ lineGo (L.cps.toList.drop (j + 1)) = G) : (z ++ Str.ofString "\n").cps.toList = G := by
  have hl := cps_length L
  rw [List.drop_eq_nil_of_le (by omega)] at h
  rw [cat_cps, nl_cps]
  simpa [lineGo] using h

theorem way_emit (hPW : At L dd j G) (hj : (j : Int) < (L.length : Int)) (hc : (Txt.item L (j : Int) != Str.ofString "=") = true) : (dd ++ Txt.item L (j : Int)).cps.toList ++ lineGo (L.cps.toList.drop (j + 1)) = G := by
  refine emit_gen hPW hj ?_
  have hl := cps_length L
  rw [eq_sign_lit, ne_sign (item_cps (by omega) hj)] at hc
  simp only [decide_eq_true_eq] at hc
  rw [List.drop_eq_getElem_cons (by omega)]
  exact lineGo_cons hc
theorem is_eq (hj : (j : Int) < (L.length : Int)) (hc : (Txt.item L (j : Int) != Str.ofString "=") = false) : L.cps.toList[j]'(by rw [cps_length]; omega) = 61 := by
  rw [eq_sign_lit, ne_sign (item_cps (by omega) hj)] at hc
  simpa using hc
theorem way_soft (hPW : At L dd j G) (hj : (j : Int) < (L.length : Int)) (hc : (Txt.item L (j : Int) != Str.ofString "=") = false) (he : (j : Int) + 1 = (L.length : Int)) : dd.cps.toList = G := by
  have h1 := hPW.left hj
  have hl := cps_length L
  have h2 := is_eq hj hc
  rw [List.drop_eq_getElem_cons (by omega), h2, List.drop_eq_nil_of_le (by omega)] at h1
  simpa [lineGo] using h1
theorem way_eq1 (hPW : At L dd j G) (hj : (j : Int) < (L.length : Int)) (hc : (Txt.item L (j : Int) != Str.ofString "=") = false) (h2 : (j : Int) + 2 < (L.length : Int))
    (hx : (occurrences (Str.ofString "0123456789abcdefABCDEF") (Txt.item L ((j : Int) + 1)) 0 (Str.ofString "0123456789abcdefABCDEF").length 1).isEmpty = true) : (dd ++ Txt.item L (j : Int)).cps.toList ++ lineGo (L.cps.toList.drop (j + 1)) = G := by
  refine emit_gen hPW hj ?_
  have hl := cps_length L
  have q := is_eq hj hc
  rw [occ_hex (item_cps (by omega) (by omega))] at hx
  have e : ((j : Int) + 1).toNat = j + 1 := by omega
  simp only [e] at hx
  rw [List.drop_eq_getElem_cons (by omega), q, List.drop_eq_getElem_cons (i := j + 1) (by omega)]
  exact lineGo_eq1 (by simpa using hx)
theorem way_eq2 (hPW : At L dd j G) (hj : (j : Int) < (L.length : Int)) (hc : (Txt.item L (j : Int) != Str.ofString "=") = false) (h2 : (j : Int) + 2 < (L.length : Int))
    (hx : (occurrences (Str.ofString "0123456789abcdefABCDEF") (Txt.item L ((j : Int) + 2)) 0 (Str.ofString "0123456789abcdefABCDEF").length 1).isEmpty = true) : (dd ++ Txt.item L (j : Int)).cps.toList ++ lineGo (L.cps.toList.drop (j + 1)) = G := by
  refine emit_gen hPW hj ?_
  have hl := cps_length L
  have q := is_eq hj hc
  rw [occ_hex (item_cps (by omega) (by omega))] at hx
  have e : ((j : Int) + 2).toNat = j + 2 := by omega
  simp only [e] at hx
  rw [List.drop_eq_getElem_cons (by omega), q, List.drop_eq_getElem_cons (i := j + 1) (by omega), List.drop_eq_getElem_cons (i := j + 1 + 1) (by omega)]
  exact lineGo_eq2 (by simpa using hx)
theorem way_eq3 (hPW : At L dd j G) (hj : (j : Int) < (L.length : Int)) (hc : (Txt.item L (j : Int) != Str.ofString "=") = false) (he : (j : Int) + 1 ≠ (L.length : Int)) (h2 : ¬ (j : Int) + 2 < (L.length : Int)) : (dd ++ Txt.item L (j : Int)).cps.toList ++ lineGo (L.cps.toList.drop (j + 1)) = G := by
  refine emit_gen hPW hj ?_
  have hl := cps_length L
  have q := is_eq hj hc
  rw [List.drop_eq_getElem_cons (by omega), q, List.drop_eq_getElem_cons (i := j + 1) (by omega), List.drop_eq_nil_of_le (by omega)]
  exact lineGo_eq3

def pairVal (L : Str) (j : Nat) : Nat := 16 * hv (L.cps.toList.getD (j + 1) 0) + hv (L.cps.toList.getD (j + 2) 0)
theorem way_oct (hPW : At L dd j G) (hj : (j : Int) < (L.length : Int)) (hc : (Txt.item L (j : Int) != Str.ofString "=") = false) (h2 : (j : Int) + 2 < (L.length : Int))
    (hx : (occurrences (Str.ofString "0123456789abcdefABCDEF") (Txt.item L ((j : Int) + 1)) 0 (Str.ofString "0123456789abcdefABCDEF").length 1).isEmpty = false)
    (hy : (occurrences (Str.ofString "0123456789abcdefABCDEF") (Txt.item L ((j : Int) + 2)) 0 (Str.ofString "0123456789abcdefABCDEF").length 1).isEmpty = false) :
    (dd ++ (⟨#[pairVal L j]⟩ : Str)).cps.toList ++ lineGo (L.cps.toList.drop (j + 3)) = G := by
  have h1 := hPW.left hj
  have hl := cps_length L
  have q := is_eq hj hc
  rw [occ_hex (item_cps (by omega) (by omega))] at hx hy
  have e1 : ((j : Int) + 1).toNat = j + 1 := by omega
  have e2 : ((j : Int) + 2).toNat = j + 2 := by omega
  simp only [e1] at hx
  simp only [e2] at hy
  rw [List.drop_eq_getElem_cons (by omega), q, List.drop_eq_getElem_cons (i := j + 1) (by omega), List.drop_eq_getElem_cons (i := j + 1 + 1) (by omega), lineGo_oct (by simpa using hx) (by simpa using hy)] at h1
  rw [cat_cps]
  unfold pairVal
  rw [List.getD_eq_getElem?_getD, List.getD_eq_getElem?_getD, List.getElem?_eq_getElem (by omega), List.getElem?_eq_getElem (by omega)]
  simpa using h1
theorem end_oct {z : Str} (he : (j : Int) + 3 = (L.length : Int)) (h : z.cps.toList ++ lineGo (L.cps.toList.drop (j + 3)) = G) : (z ++ Str.ofString "\n").cps.toList = G := by
  have hl := cps_length L
  rw [List.drop_eq_nil_of_le (by omega)] at h
  rw [cat_cps, nl_cps]
  simpa [lineGo] using h
end

theorem hexes : ∀ b ∈ [48,49,50,51,52,53,54,55,56,57,97,98,99,100,101,102,65,66,67,68,69,70], ∀ c ∈ [48,49,50,51,52,53,54,55,56,57,97,98,99,100,101,102,65,66,67,68,69,70],
    int16? ⟨#[b, c]⟩ = some ((16 * hv b + hv c : Nat) : Int) ∧ 16 * hv b + hv c < 256 := by decide +kernel
theorem hex_pair {y : Str} {b c : Nat} (h : y.cps.toList = [b, c]) (hb : isHex b = true) (hc : isHex c = true) : int16? y = some ((16 * hv b + hv c : Nat) : Int) ∧ 16 * hv b + hv c < 256 := by
  have e : y = ⟨#[b, c]⟩ := str_ext (by rw [h])
  rw [e]
  exact hexes b ((mem_hex b).mpr hb) c ((mem_hex c).mpr hc)

theorem pair_in {L : Str} {j : Nat} (h2 : (j : Int) + 2 < (L.length : Int))
    (hx : (occurrences (Str.ofString "0123456789abcdefABCDEF") (Txt.item L ((j : Int) + 1)) 0 (Str.ofString "0123456789abcdefABCDEF").length 1).isEmpty = false)
    (hy : (occurrences (Str.ofString "0123456789abcdefABCDEF") (Txt.item L ((j : Int) + 2)) 0 (Str.ofString "0123456789abcdefABCDEF").length 1).isEmpty = false) :
    int16? (Txt.slice (Txt.slice L (some (j : Int)) (some ((j : Int) + 3))) (some 1) (some 3)) = some ((pairVal L j : Nat) : Int) ∧ pairVal L j < 256 := by
  have hl := cps_length L
  rw [occ_hex (item_cps (by omega) (by omega))] at hx hy
  have e1 : ((j : Int) + 1).toNat = j + 1 := by omega
  have e2 : ((j : Int) + 2).toNat = j + 2 := by omega
  simp only [e1] at hx
  simp only [e2] at hy
  have s1 : (Txt.slice L (some (j : Int)) (some ((j : Int) + 3))).cps.toList = [L.cps.toList[j]'(by omega), L.cps.toList[j + 1]'(by omega), L.cps.toList[j + 2]'(by omega)] := by
    rw [slice_cps]
    have c1 : clipN (some (j : Int)) 0 L.length = j := by unfold clipN; simp only; omega
    have c2 : clipN (some ((j : Int) + 3)) L.length L.length = j + 3 := by unfold clipN; simp only; omega
    rw [c1, c2, List.drop_take, List.drop_eq_getElem_cons (by omega), List.drop_eq_getElem_cons (i := j + 1) (by omega), List.drop_eq_getElem_cons (i := j + 1 + 1) (by omega)]
    have e : j + 3 - j = 3 := by omega
    rw [e]
    simp
  have l1 : (Txt.slice L (some (j : Int)) (some ((j : Int) + 3))).length = 3 := by rw [← cps_length, s1]; rfl
  have s2 : (Txt.slice (Txt.slice L (some (j : Int)) (some ((j : Int) + 3))) (some 1) (some 3)).cps.toList = [L.cps.toList[j + 1]'(by omega), L.cps.toList[j + 2]'(by omega)] := by
    rw [slice_cps, s1, l1]
    rfl
  have h := hex_pair s2 (by simpa using hx) (by simpa using hy)
  unfold pairVal
  rw [List.getD_eq_getElem?_getD, List.getD_eq_getElem?_getD, List.getElem?_eq_getElem (by omega), List.getElem?_eq_getElem (by omega)]
  exact h
end Mine
namespace Mine
theorem take_go {x y : Str} {vs : List Str} {i : Nat} (e : vs = Txt.lines x) (hy : vs[i]? = some y) : ((Txt.lines x).take (i + 1)).flatMap goS = ((Txt.lines x).take i).flatMap goS ++ goS y := by
  rw [← e, List.take_add_one, hy]
  simp
theorem go_empty {y : Str} (h : ((Txt.rstrip y).length : Int) = 0) : goS y = [10] := by
  have hl := cps_length (Txt.rstrip y)
  have e : (Txt.rstrip y).cps.toList = [] := List.length_eq_zero_iff.mp (by omega)
  unfold goS
  rw [e]
  rfl
theorem way_empty {d y : Str} {G : List Nat} (hd : d.cps.toList = G) (h : ((Txt.rstrip y).length : Int) = 0) : (d ++ Str.ofString "\n").cps.toList = G ++ goS y := by
  rw [cat_cps, nl_cps, go_empty h, hd]
theorem At.over {L dd : Str} {j : Nat} {G : List Nat} (h : At L dd j G) (hj : ¬ (j : Int) < (L.length : Int)) : dd.cps.toList = G := by
  rcases h with h | h
  · omega
  · exact h.2
end Mine
namespace Mine
theorem slice_13_le (x : Str) : (Txt.slice x (some 1) (some 3)).length ≤ 3 := by
  rw [← cps_length, slice_cps, List.length_drop, List.length_take]
  have : clipN (some 3) x.length x.length ≤ 3 := by unfold clipN; simp only; omega
  omega
end Mine
end PartW
section PartW2
open PySem PySem.W PyProof.Rows PySem.Spec PySem.Calls PySem.Builtin.Str
set_option maxRecDepth 100000
set_option maxHeartbeats 4000000
namespace Mine
theorem last_item {x : Str} (hx : (x.length : Int) ≠ 0) : ∃ c, x.cps.toList.getLast? = some c ∧ (Txt.item x (-1)).cps.toList = [c] := by
  have hl := cps_length x
  have hne : x.cps.toList ≠ [] := by intro e; rw [e] at hl; simp at hl; omega
  refine ⟨x.cps.toList.getLast hne, List.getLast?_eq_some_getLast hne, ?_⟩
  rw [item_neg (by omega) (by omega), List.getLast_eq_getElem]
  congr 2
  omega
theorem crlf_cps : (Str.ofString "\r\n").cps.toList = [13, 10] := by decide +kernel
theorem occ_crlf {y : Str} {c : Nat} (h : y.cps.toList = [c]) : (occurrences (Str.ofString "\r\n") y 0 (Str.ofString "\r\n").length 1).isEmpty = !(decide (c = 13 ∨ c = 10)) := by
  have q := StrLaws.found_one (Str.ofString "\r\n") c
  rw [one_sign h]
  rw [crlf_cps] at q
  have e : decide (c ∈ [13, 10]) = decide (c = 13 ∨ c = 10) := by simp
  rw [e] at q
  rw [← q, Bool.not_not]
theorem ends_nl (d : Str) : Txt.endswith d (Str.ofString "\n") = decide (d.cps.toList.getLast? = some 10) := by
  have hl := cps_length d
  have e1 : (Str.ofString "\n").length = 1 := by decide +kernel
  have e2 : (Str.ofString "\n").cps = #[10] := by decide +kernel
  unfold Txt.endswith subAt
  rw [e1, e2]
  by_cases h0 : d.length = 0
  · have e : d.cps.toList = [] := List.length_eq_zero_iff.mp (by omega)
    rw [e]
    simp [h0]
  · have hne : d.cps.toList ≠ [] := by intro e; rw [e] at hl; simp at hl; omega
    rw [List.getLast?_eq_some_getLast hne, List.getLast_eq_getElem]
    have hlt : d.length - 1 < d.cps.size := by have : d.cps.size = d.length := rfl; omega
    have e3 : d.cps.extract (d.length - 1) (d.length - 1 + 1) = #[d.cps[d.length - 1]] := by
      apply Array.ext
      · simp; have : d.cps.size = d.length := rfl; omega
      · intro i h1 h2
        simp at h2
        subst h2
        simp
    rw [e3]
    have e4 : 0 + 1 ≤ d.length := by omega
    simp only [e4, decide_true, Bool.true_and]
    have e5 : d.cps.toList[d.cps.toList.length - 1]'(by omega) = d.cps[d.length - 1] := by
      simp [Array.getElem_toList]
      congr 1
    rw [e5]
    by_cases hc : d.cps[d.length - 1] = 10
    · simp [hc]
    · simp [hc]
theorem cut_last {d : Str} (h : d.cps.toList ≠ []) : (Txt.slice d none (some (-((1 : Nat) : Int)))).cps.toList = d.cps.toList.dropLast := by
  have hl := cps_length d
  have : 0 < d.cps.toList.length := List.length_pos_iff.mpr h
  rw [slice_cps, List.dropLast_eq_take]
  have e1 : clipN (some (-((1 : Nat) : Int))) d.length d.length = d.cps.toList.length - 1 := by
    unfold clipN
    simp only
    omega
  rw [e1]
  rfl

theorem dec_cut {x d : Str} (hx : (x.length : Int) ≠ 0) (hd : d.cps.toList = (Txt.lines x).flatMap goS) (h1 : (occurrences (Str.ofString "\r\n") (Txt.item x (-1)) 0 (Str.ofString "\r\n").length 1).isEmpty = true) (h2 : Txt.endswith d (Str.ofString "\n") = true) :
    Txt.slice d none (some (-((1 : Nat) : Int))) = decS x := by
  obtain ⟨c, hc1, hc2⟩ := last_item hx
  rw [occ_crlf hc2] at h1
  rw [ends_nl, decide_eq_true_eq] at h2
  have h3 : ¬ (c = 13 ∨ c = 10) := by simpa using h1
  apply str_ext
  rw [cut_last (by intro e; rw [e] at h2; simp at h2)]
  unfold decS decL
  rw [if_neg (by omega)]
  show _ = (if _ then _ else _ : List Nat)
  rw [← hd, hc1, if_pos ⟨⟨by simpa using fun e => h3 (.inl e), by simpa using fun e => h3 (.inr e)⟩, h2⟩]
theorem dec_keep1 {x d : Str} (hx : (x.length : Int) ≠ 0) (hd : d.cps.toList = (Txt.lines x).flatMap goS) (h2 : Txt.endswith d (Str.ofString "\n") = false) : d = decS x := by
  rw [ends_nl, decide_eq_false_iff_not] at h2
  apply str_ext
  unfold decS decL
  rw [if_neg (by omega)]
  show _ = (if _ then _ else _ : List Nat)
  rw [← hd, if_neg (fun h => h2 h.2)]
theorem dec_keep2 {x d : Str} (hx : (x.length : Int) ≠ 0) (hd : d.cps.toList = (Txt.lines x).flatMap goS) (h1 : (occurrences (Str.ofString "\r\n") (Txt.item x (-1)) 0 (Str.ofString "\r\n").length 1).isEmpty = false) : d = decS x := by
  obtain ⟨c, hc1, hc2⟩ := last_item hx
  rw [occ_crlf hc2] at h1
  have h3 : c = 13 ∨ c = 10 := by rw [Bool.not_eq_false', decide_eq_true_eq] at h1; exact h1
  apply str_ext
  unfold decS decL
  rw [if_neg (by omega)]
  show _ = (if _ then _ else _ : List Nat)
  rw [← hd, hc1, if_neg]
  rintro ⟨⟨a, b⟩, _⟩
  rcases h3 with rfl | rfl
  · exact a rfl
  · exact b rfl
theorem dec_empty {x : Str} (hx : (x.length : Int) = 0) : x = decS x := by
  have hl := cps_length x
  apply str_ext
  unfold decS decL
  rw [if_pos (by omega)]
  exact List.length_eq_zero_iff.mp (by omega)
theorem ret_str {h₀ h' : Heap} {L : Addr} {m : Str → Option Value} {news : List (Addr × Obj)} {s : Shared} {Q : Value → Shared → Prop} {x y : Str} {t : Tok} {tk' : Nat}
    (hret : ∀ (t : Tok) (h' : Heap) (tk' : Nat), Fr h₀ L h' m → News h₀ L h' news → Q (.str x t) { s with heap := h', toks := tk' }) (e : y = x) (F : Fr h₀ L h' m) (N : News h₀ L h' news) : Q (.str y t) { s with heap := h', toks := tk' } := by
  subst e
  exact hret t h' tk' F N
theorem ret_bool {h₀ h' : Heap} {L : Addr} {m : Str → Option Value} {news : List (Addr × Obj)} {s : Shared} {Q : Value → Shared → Prop} {x y : Bool} {tk' : Nat}
    (hret : ∀ (t : Tok) (h' : Heap) (tk' : Nat), Fr h₀ L h' m → News h₀ L h' news → Q (.bool x) { s with heap := h', toks := tk' }) (e : y = x) (F : Fr h₀ L h' m) (N : News h₀ L h' news) : Q (.bool y) { s with heap := h', toks := tk' } := by
  subst e
  exact hret 0 h' tk' F N
theorem ret_int {h₀ h' : Heap} {L : Addr} {m : Str → Option Value} {news : List (Addr × Obj)} {s : Shared} {Q : Value → Shared → Prop} {x y : Int} {t : Tok} {tk' : Nat}
    (hret : ∀ (t : Tok) (h' : Heap) (tk' : Nat), Fr h₀ L h' m → News h₀ L h' news → Q (.int x t) { s with heap := h', toks := tk' }) (e : y = x) (F : Fr h₀ L h' m) (N : News h₀ L h' news) : Q (.int y t) { s with heap := h', toks := tk' } := by
  subst e
  exact hret t h' tk' F N
end Mine
end PartW2
section PartR1
open PySem PySem.W PyProof.Rows PySem.Spec PySem.Calls PySem.Builtin
set_option maxRecDepth 100000
set_option maxHeartbeats 4000000
namespace Mine
theorem plain_pattern : PlainAttrs "re.Pattern" :=
  ⟨⟨"object.__getattribute__", by rw [typeLookup_type, builtinLookup_eq_fast]; kernel_rfl, by decide +kernel⟩, by rw [typeLookup_type, builtinLookup_eq_fast]; kernel_rfl⟩
theorem plain_match : PlainAttrs "re.Match" :=
  ⟨⟨"object.__getattribute__", by rw [typeLookup_type, builtinLookup_eq_fast]; kernel_rfl, by decide +kernel⟩, by rw [typeLookup_type, builtinLookup_eq_fast]; kernel_rfl⟩
theorem slot_sub : Slot "re.Pattern" "sub" "re.Pattern.sub" :=
  .of (owner := "re.Pattern") (n := "sub") (by rw [typeLookup_type, builtinLookup_eq_fast]; kernel_rfl) (by decide +kernel) (by decide +kernel) (by decide +kernel)
    (by first | exact .inl (by decide +kernel) | exact .inr (by decide +kernel)) (by rw [isSubtype_type]; kernel_rfl)
theorem type_sub : typeOf (.builtin "re.Pattern.sub") = pure (.type "method_descriptor") := by show builtinType _ = _; rw [builtinType_eq_fast]; kernel_rfl
theorem entry_sub : entryFor table "re.Pattern.sub" = some Builtin.«re.Pattern.sub» := entryFor_of_tree (by kernel_rfl)
theorem owner_pattern : Manifest.owners.lookup (String.ofList ['n', 'r', 'e', 't', 't', 'a', 'P', '.', 'e', 'r'].reverse) = some Manifest.sig_re_Pattern := by kernel_rfl
theorem args_sub (a b c : Value) : argsOk "re.Pattern.sub" ⟨[a, b, c], []⟩ := by
  unfold argsOk; rw [signature?_of (id := "re.Pattern.sub") (n := ['b', 'u', 's']) (o := ['n', 'r', 'e', 't', 't', 'a', 'P', '.', 'e', 'r']) (by kernel_rfl) owner_pattern]; kernel_rfl
theorem slot_group : Slot "re.Match" "group" "re.Match.group" :=
  .of (owner := "re.Match") (n := "group") (by rw [typeLookup_type, builtinLookup_eq_fast]; kernel_rfl) (by decide +kernel) (by decide +kernel) (by decide +kernel)
    (by first | exact .inl (by decide +kernel) | exact .inr (by decide +kernel)) (by rw [isSubtype_type]; kernel_rfl)
theorem type_group : typeOf (.builtin "re.Match.group") = pure (.type "method_descriptor") := by show builtinType _ = _; rw [builtinType_eq_fast]; kernel_rfl
theorem entry_group : entryFor table "re.Match.group" = some Builtin.«re.Match.group» := entryFor_of_tree (by kernel_rfl)
theorem owner_match : Manifest.owners.lookup (String.ofList ['h', 'c', 't', 'a', 'M', '.', 'e', 'r'].reverse) = some Manifest.sig_re_Match := by kernel_rfl
theorem args_group (a b : Value) : argsOk "re.Match.group" ⟨[a, b], []⟩ := by
  unfold argsOk; rw [signature?_of (id := "re.Match.group") (n := ['p', 'u', 'o', 'r', 'g']) (o := ['h', 'c', 't', 'a', 'M', '.', 'e', 'r']) (by kernel_rfl) owner_match]; kernel_rfl
theorem entry_subloop : entryFor table "re.Pattern.sub.loop" = some Builtin.«re.Pattern.sub.loop» := entryFor_of_tree (by kernel_rfl)
theorem plain_subloop : plainId "re.Pattern.sub.loop" = true := by decide +kernel
end Mine
end PartR1
section PartR2
set_option maxRecDepth 100000
set_option maxHeartbeats 4000000
open PySem
namespace Mine
open PySem.Sre PySem.Sre.M

def reCode : Array Nat := #[14, 8, 1, 3, 3, 1, 1, 61, 0, 16, 61, 24, 16, 2, 2, 13, 11, 9, 0, 67043328, 126, 126, 0, 0, 0, 0, 0, 1, 1]

/-- the machine that is about to look at place s -/
def look (text : Array Nat) (seen : Seen) (must first : Bool) (s : Nat) : Sre.M :=
  { code := reCode, text, lim := text.size, start := s, lastStart := text.size, wholeText := false, mustAdvance := must, pc := 9, pos := s, handed := s, outermost := first,
    marks := #[], lastmark := -1, lastindex := -1, loops := #[], inner := none, frames := [{ wait := .nextStart, pc := 9, pos := s, outermost := first }], weight := 1, answer := none, seen, outcome := none }

theorem search_start (text : Array Nat) (s : Nat) (must : Bool) (h : s ≤ text.size) (h3 : ¬ text.size - s < 3) :
    forSearch reCode text 0 s text.size must = look text (({} : Seen).add 14) must true s := by
  unfold forSearch
  have e1 : (header reCode) = (3, 9) := by decide +kernel
  have e2 : ((9 : Nat) != 0 && reCode.getD 2 0 &&& 5 != 0) = true := by decide +kernel
  simp only [e1, e2]
  rw [if_neg (by simp; omega)]
  rfl

theorem search_short (text : Array Nat) (s : Nat) (must : Bool) (h3 : s > text.size ∨ text.size - s < 3) : ∃ m : Sre.M, forSearch reCode text 0 s text.size must = m ∧ m.outcome = none ∧ m.answer = some false ∧ m.frames = [] := by
  unfold forSearch
  have e1 : (header reCode) = (3, 9) := by decide +kernel
  simp only [e1]
  rw [if_pos (by simpa using h3)]
  exact ⟨_, rfl, rfl, rfl, rfl⟩

theorem step_exec {m : Sre.M} (h1 : m.outcome = none) (h2 : m.answer = none) (h3 : m.pc < m.code.size) : m.step = m.exec := by
  unfold M.step
  rw [h1, h2]
  simp [h3]
theorem step_resume {m : Sre.M} {yes : Bool} {f : Sre.Frame} {rest : List Sre.Frame} (h1 : m.outcome = none) (h2 : m.answer = some yes) (h3 : m.frames = f :: rest) :
    m.step = resume { m with answer := none, frames := rest, weight := m.weight - (1 + f.kept.marks.size), pc := f.pc, pos := f.pos, outermost := f.outermost } f yes := by
  unfold M.step
  rw [h1, h2, h3]
  rfl
/-- the first sign is another one -/
theorem look_no (text : Array Nat) (seen : Seen) (must first : Bool) (s : Nat) (hs : s < text.size) (hc : text.getD s 0 ≠ 61) :
    (look text seen must first s).step = { look text seen must first s with answer := some false, seen := seen.add 16 } := by
  have hb : (text.getD s 0 == 61) = false := by simpa using hc
  rw [step_exec rfl rfl (by show 9 < 29; decide)]
  unfold M.exec
  show (if _ then _ else _) = _
  rw [if_neg (by show ¬ s ≥ text.size; omega)]
  show (match (Except.ok (text.getD s 0 == 61, seen.add 16) : Except String (Bool × Seen)) with | .error why => _ | .ok (false, seen) => _ | .ok (true, seen) => _) = _
  rw [hb]
  rfl
theorem look_end (text : Array Nat) (seen : Seen) (must first : Bool) :
    (look text seen must first text.size).step = { look text seen must first text.size with answer := some false, seen := seen.add 16 } := by
  rw [step_exec rfl rfl (by show 9 < 29; decide)]
  unfold M.exec
  show (if _ then _ else _) = _
  rw [if_pos (by show text.size ≥ text.size; omega)]
  rfl
theorem look_next (text : Array Nat) (seen seen' : Seen) (must first : Bool) (s : Nat) (hs : s < text.size) (m : Sre.M) (hm : m = { look text seen must first s with answer := some false, seen := seen', pc := m.pc, pos := m.pos }) :
    m.step = look text seen' false false (s + 1) := by
  rw [hm]
  show (if s < text.size then _ else _) = _
  rw [if_pos hs]
  rfl
theorem look_over (text : Array Nat) (seen seen' : Seen) (must first : Bool) :
    ({ look text seen must first text.size with answer := some false, seen := seen' } : Sre.M).step.step.outcome = some .failed := by
  have e : ({ look text seen must first text.size with answer := some false, seen := seen' } : Sre.M).step = { look text seen must first text.size with answer := some false, seen := seen', frames := [], weight := 0 } := by
    show (if text.size < text.size then _ else _) = _
    rw [if_neg (Nat.lt_irrefl _)]
    rfl
  rw [e]
  rfl
/-- the first sign is = -/
theorem look_lit (text : Array Nat) (seen : Seen) (must first : Bool) (s : Nat) (hs : s < text.size) (hc : text.getD s 0 = 61) :
    (look text seen must first s).step = { look text seen must first s with seen := seen.add 16, pc := 11, pos := s + 1 } := by
  have hb : (text.getD s 0 == 61) = true := by simpa using hc
  rw [step_exec rfl rfl (by show 9 < 29; decide)]
  unfold M.exec
  show (if _ then _ else _) = _
  rw [if_neg (by show ¬ s ≥ text.size; omega)]
  show (match (Except.ok (text.getD s 0 == 61, seen.add 16) : Except String (Bool × Seen)) with | .error why => _ | .ok (false, seen) => _ | .ok (true, seen) => _) = _
  rw [hb]
  rfl

def hexBit (c : Nat) : Bool := c < 256 && (reCode.getD (17 + (1 + c / 32)) 0).testBit (c % 32)
theorem accept_eq (c : Nat) (seen : Seen) : accepts reCode 15 c seen = (if (decide (c < 256) && (reCode.getD (17 + (1 + c / 32)) 0).testBit (c % 32)) = true then .ok (true, seen.add 9) else .ok (false, (seen.add 9).add 0)) := rfl
theorem accept_in (c : Nat) (seen : Seen) : ∃ seen', accepts reCode 15 c seen = .ok (hexBit c, seen') := by
  rw [accept_eq]
  unfold hexBit
  cases (decide (c < 256) && (reCode.getD (17 + (1 + c / 32)) 0).testBit (c % 32))
  · exact ⟨_, rfl⟩
  · exact ⟨_, rfl⟩
theorem room_short (text : Array Nat) (seen : Seen) (must first : Bool) (s : Nat) (h : text.size < s + 3) (hs : s < text.size) :
    ∃ seen', ({ look text seen must first s with pc := 11, pos := s + 1 } : Sre.M).step = { look text seen must first s with answer := some false, seen := seen', pc := 11, pos := s + 1 } := by
  refine ⟨seen.add 24, ?_⟩
  rw [step_exec rfl rfl (by show 11 < 29; decide)]
  unfold M.exec
  show (if _ then _ else _) = _
  rw [if_pos (by show ((2 : Nat) : Int) > (text.size : Int) - ((s + 1 : Nat) : Int); omega)]
  rfl
theorem run_two (text : Array Nat) (p : Nat) (seen : Seen) : ∃ seen', Sre.run reCode text 15 2 p 0 seen = .ok (if hexBit (text.getD p 0) then (if hexBit (text.getD (p + 1) 0) then 2 else 1) else 0, seen') := by
  obtain ⟨s1, h1⟩ := accept_in (text.getD p 0) seen
  obtain ⟨s2, h2⟩ := accept_in (text.getD (p + 1) 0) s1
  unfold Sre.run
  rw [h1]
  cases hexBit (text.getD p 0)
  · exact ⟨_, rfl⟩
  · show ∃ seen', Sre.run reCode text 15 1 (p + 1) (0 + 1) s1 = _
    unfold Sre.run
    rw [h2]
    cases hexBit (text.getD (p + 1) 0)
    · exact ⟨_, rfl⟩
    · exact ⟨_, rfl⟩
theorem pair_no (text : Array Nat) (seen : Seen) (must first : Bool) (s : Nat) (h : s + 3 ≤ text.size) (hx : (hexBit (text.getD (s + 1) 0) && hexBit (text.getD (s + 2) 0)) = false) :
    ∃ seen', ({ look text seen must first s with pc := 11, pos := s + 1 } : Sre.M).step = { look text seen must first s with answer := some false, seen := seen', pc := 11, pos := s + 1 } := by
  obtain ⟨s2, h2⟩ := run_two text (s + 1) (((seen.add 24)).add 13)
  refine ⟨s2, ?_⟩
  rw [step_exec rfl rfl (by show 11 < 29; decide)]
  unfold M.exec
  show (if _ then _ else _) = _
  rw [if_neg (by show ¬ ((2 : Nat) : Int) > (text.size : Int) - ((s + 1 : Nat) : Int); omega)]
  have e : min 2 ((text.size : Int) - ((s + 1 : Nat) : Int)).toNat = 2 := by omega
  show (match Sre.run reCode text 15 (min 2 ((text.size : Int) - ((s + 1 : Nat) : Int)).toNat) (s + 1) 0 ((seen.add 24).add 13) with | .error why => _ | .ok (n, seen) => _) = _
  rw [e, h2]
  have e2 : (if hexBit (text.getD (s + 1) 0) = true then (if hexBit (text.getD (s + 1 + 1) 0) = true then 2 else 1) else 0) < 2 := by
    have e3 : s + 1 + 1 = s + 2 := rfl
    rw [e3]
    cases h1 : hexBit (text.getD (s + 1) 0) <;> cases h2 : hexBit (text.getD (s + 2) 0) <;> simp_all
  exact (if_pos e2).trans rfl
theorem pair_yes (text : Array Nat) (seen : Seen) (must first : Bool) (s : Nat) (h : s + 3 ≤ text.size) (hx : (hexBit (text.getD (s + 1) 0) && hexBit (text.getD (s + 2) 0)) = true) :
    ∃ m : Sre.M, ({ look text seen must first s with pc := 11, pos := s + 1 } : Sre.M).step.step.step.step.step = m ∧ m.outcome = some .matched ∧ m.start = s ∧ m.handed = s + 3 ∧ m.lastmark = -1 ∧ m.lastindex = -1 ∧ m.marks = #[] := by
  obtain ⟨s2, h2⟩ := run_two text (s + 1) (((seen.add 24)).add 13)
  obtain ⟨hx1, hx2⟩ := Bool.and_eq_true_iff.mp hx
  have e1 : ({ look text seen must first s with pc := 11, pos := s + 1 } : Sre.M).step = { look text seen must first s with seen := s2, pc := 28, pos := s + 3, handed := s + 3, frames := { wait := .giveBack, pc := 11, pos := s + 3, outermost := first, count := 2 } :: [{ wait := .nextStart, pc := 9, pos := s, outermost := first }], weight := 2 } := by
    rw [step_exec rfl rfl (by first | (show 11 < 29; decide) | (show 28 < 29; decide))]
    unfold M.exec
    show (if _ then _ else _) = _
    rw [if_neg (by show ¬ ((2 : Nat) : Int) > (text.size : Int) - ((s + 1 : Nat) : Int); omega)]
    have e : min 2 ((text.size : Int) - ((s + 1 : Nat) : Int)).toNat = 2 := by omega
    show (match Sre.run reCode text 15 (min 2 ((text.size : Int) - ((s + 1 : Nat) : Int)).toNat) (s + 1) 0 ((seen.add 24).add 13) with | .error why => _ | .ok (n, seen) => _) = _
    have e3 : s + 1 + 1 = s + 2 := rfl
    rw [e, h2, e3, hx1, hx2]
    rfl
  rw [e1]
  have e2 : ({ look text seen must first s with seen := s2, pc := 28, pos := s + 3, handed := s + 3, frames := { wait := .giveBack, pc := 11, pos := s + 3, outermost := first, count := 2 } :: [{ wait := .nextStart, pc := 9, pos := s, outermost := first }], weight := 2 } : Sre.M).step = { look text seen must first s with answer := some true, seen := s2.add 1, pc := 28, pos := s + 3, handed := s + 3, frames := { wait := .giveBack, pc := 11, pos := s + 3, outermost := first, count := 2 } :: [{ wait := .nextStart, pc := 9, pos := s, outermost := first }], weight := 2 } := by
    rw [step_exec rfl rfl (by first | (show 11 < 29; decide) | (show 28 < 29; decide))]
    unfold M.exec
    show (if _ then _ else _) = _
    rw [if_neg (by
      show ¬ (first && ((false && (s + 3 != text.size)) || (must && (s + 3 == s)))) = true
      have : (s + 3 == s) = false := by simp
      rw [this]
      simp)]
    rfl
  rw [e2]
  exact ⟨_, rfl, rfl, rfl, rfl, rfl, rfl, rfl⟩
end Mine
end PartR2
section PartR3
open PySem PySem.W PyProof.Rows PySem.Spec PySem.Calls PySem.Builtin PySem.Builtin.Re
set_option maxRecDepth 100000
set_option maxHeartbeats 4000000
namespace Mine
open PySem.Sre PySem.Sre.M

theorem hexBit_small : ∀ c < 256, hexBit c = isHex c := by decide +kernel
theorem hexBit_eq (c : Nat) : hexBit c = isHex c := by
  by_cases h : c < 256
  · exact hexBit_small c h
  · unfold hexBit isHex
    rw [decide_eq_false h]
    simp
    omega

def isM (text : Array Nat) (s : Nat) : Bool := decide (s + 3 ≤ text.size) && text.getD s 0 == 61 && isHex (text.getD (s + 1) 0) && isHex (text.getD (s + 2) 0)
def nextM (text : Array Nat) : Nat → Nat → Option Nat
  | 0, _ => none
  | n + 1, s => if isM text s then some s else nextM text n (s + 1)

def Found (text : Array Nat) (n s : Nat) (m : Sre.M) : Prop := match nextM text n s with
  | some i => m.outcome = some .matched ∧ m.start = i ∧ m.handed = i + 3 ∧ m.lastmark = -1 ∧ m.lastindex = -1 ∧ m.marks = #[]
  | none => m.outcome = some .failed

theorem runFor_done {m : Sre.M} (h : m.outcome.isSome = true) : ∀ k, runFor k m = m
  | 0 => rfl
  | k + 1 => by unfold runFor; rw [h]; rfl
theorem runFor_step {m : Sre.M} (h : m.outcome = none) (k : Nat) : runFor (k + 1) m = runFor k m.step := by
  conv => lhs; unfold runFor
  rw [h]
  rfl
theorem runFor_add : ∀ (a b : Nat) (m : Sre.M), runFor (a + b) m = runFor b (runFor a m)
  | 0, b, m => by rw [Nat.zero_add]; rfl
  | a + 1, b, m => by
    cases h : m.outcome with
    | some o =>
      have h' : m.outcome.isSome = true := by rw [h]; rfl
      rw [runFor_done h', runFor_done h', runFor_done h']
    | none =>
      rw [show a + 1 + b = (a + b) + 1 by omega, runFor_step h, runFor_step h]
      exact runFor_add a b m.step

def Comes (m : Sre.M) (k : Nat) (P : Sre.M → Prop) : Prop := ∃ j, j ≤ k ∧ P (runFor j m) ∧ (runFor j m).outcome.isSome = true
theorem Comes.step {m : Sre.M} {k : Nat} {P : Sre.M → Prop} (h : m.outcome = none) (c : Comes m.step k P) : Comes m (k + 1) P := by
  obtain ⟨j, hj, hp, ho⟩ := c
  exact ⟨j + 1, by omega, by rw [runFor_step h]; exact hp, by rw [runFor_step h]; exact ho⟩
theorem Comes.done {m : Sre.M} {k : Nat} {P : Sre.M → Prop} (h : m.outcome.isSome = true) (hp : P m) : Comes m k P := ⟨0, Nat.zero_le _, hp, h⟩
theorem Comes.le {m : Sre.M} {k k' : Nat} {P : Sre.M → Prop} (c : Comes m k P) (h : k ≤ k') : Comes m k' P := by
  obtain ⟨j, hj, r⟩ := c
  exact ⟨j, Nat.le_trans hj h, r⟩

theorem step_done {m : Sre.M} (h : m.outcome.isSome = true) : m.step = m := by
  unfold M.step
  rw [if_pos h]
theorem Comes.step' {m : Sre.M} {k : Nat} {P : Sre.M → Prop} (c : Comes m.step k P) : Comes m (k + 1) P := by
  cases h : m.outcome with
  | none => exact Comes.step h c
  | some o =>
    rw [step_done (by rw [h]; rfl)] at c
    exact c.le (Nat.le_succ _)
theorem failed_comes {m : Sre.M} {P : Sre.M → Prop} (h0 : m.outcome = none) (h1 : m.step.outcome = none) (h2 : m.step.step.outcome = some .failed) (hP : ∀ m' : Sre.M, m'.outcome = some .failed → P m') : Comes m 2 P := by
  refine Comes.step h0 (Comes.step h1 (Comes.done (by rw [h2]; rfl) (hP _ h2)))
theorem look_comes (text : Array Nat) : ∀ (n s : Nat) (se : Sre.Seen) (must first : Bool), s + n = text.size → Comes (look text se must first s) (4 * n + 8) (Found text n s)
  | 0, s, se, must, first, h => by
    have hs : s = text.size := by omega
    subst hs
    refine (Comes.step (k := 2) rfl ?_).le (by omega)
    rw [look_end]
    exact failed_comes rfl (by
      rw [step_resume (f := { wait := .nextStart, pc := 9, pos := text.size, outermost := first }) (rest := []) rfl rfl rfl]
      show (if text.size < text.size then _ else _ : Sre.M).outcome = none
      rw [if_neg (Nat.lt_irrefl _)]
      rfl) (look_over text se (se.add 16) must first) (fun m' e => e)
  | n + 1, s, se, must, first, h => by
    have hs : s < text.size := by omega
    have ih := fun se => look_comes text n (s + 1) se false false (by omega)
    have hno : isM text s = false → ∀ k m, Comes m k (Found text n (s + 1)) → Comes m k (Found text (n + 1) s) := by
      rintro hm k m ⟨j, hj, hf, ho⟩
      refine ⟨j, hj, ?_, ho⟩
      unfold Found nextM
      rw [hm]
      exact hf
    by_cases hc : text.getD s 0 = 61
    · refine (Comes.step (k := 4 * n + 11) rfl ?_).le (by omega)
      rw [look_lit text se must first s hs hc]
      by_cases hr : text.size < s + 3
      · refine hno (by unfold isM; rw [decide_eq_false (by omega)]; rfl) _ _ ?_
        obtain ⟨se', h1⟩ := room_short text (se.add 16) must first s hr hs
        refine (Comes.step (k := 4 * n + 9) rfl ?_).le (by omega)
        show Comes (({ look text (se.add 16) must first s with pc := 11, pos := s + 1 } : Sre.M).step) _ _
        rw [h1]
        refine (Comes.step (k := 4 * n + 8) rfl ?_).le (by omega)
        rw [look_next text (se.add 16) se' must first s hs _ rfl]
        exact ih _
      · cases hx : (hexBit (text.getD (s + 1) 0) && hexBit (text.getD (s + 2) 0)) with
        | false =>
          refine hno (by
            rw [hexBit_eq, hexBit_eq] at hx
            unfold isM
            rw [Bool.and_assoc, hx, Bool.and_false]) _ _ ?_
          obtain ⟨se', h1⟩ := pair_no text (se.add 16) must first s (by omega) hx
          refine (Comes.step (k := 4 * n + 9) rfl ?_).le (by omega)
          show Comes (({ look text (se.add 16) must first s with pc := 11, pos := s + 1 } : Sre.M).step) _ _
          rw [h1]
          refine (Comes.step (k := 4 * n + 8) rfl ?_).le (by omega)
          rw [look_next text (se.add 16) se' must first s hs _ rfl]
          exact ih _
        | true =>
          obtain ⟨m, h1, o1, r⟩ := pair_yes text (se.add 16) must first s (by omega) hx
          have hf : Found text (n + 1) s m := by
            have hm : isM text s = true := by
              rw [hexBit_eq, hexBit_eq] at hx
              unfold isM
              rw [Bool.and_assoc, hx, hc, decide_eq_true (by omega)]
              rfl
            unfold Found nextM
            rw [hm]
            exact ⟨o1, r⟩
          show Comes ({ look text (se.add 16) must first s with pc := 11, pos := s + 1 } : Sre.M) _ _
          refine (Comes.step' (Comes.step' (Comes.step' (Comes.step' (Comes.step' (k := 0) ?_))))).le (by omega)
          rw [h1]
          exact Comes.done (by rw [o1]; rfl) hf
    · refine (Comes.step (k := 4 * n + 11) rfl ?_).le (by omega)
      rw [look_no text se must first s hs hc]
      refine hno (by unfold isM; rw [show (text.getD s 0 == 61) = false by simpa using hc]; simp) _ _ ?_
      refine (Comes.step (k := 4 * n + 8) rfl ?_).le (by omega)
      rw [look_next text se (se.add 16) must first s hs _ rfl]
      exact ih _
theorem search_comes (text : Array Nat) (s : Nat) (must : Bool) (hs : s ≤ text.size) : Comes (forSearch reCode text 0 s text.size must) (4 * (text.size - s) + 8) (Found text (text.size - s) s) := by
  by_cases h3 : text.size - s < 3
  · obtain ⟨m, e, h0, h1, h2⟩ := search_short text s must (.inr h3)
    rw [e]
    have hstep : m.step.outcome = some .failed := by
      unfold M.step
      rw [h0, h1, h2]
      rfl
    refine (Comes.step' (k := 0) (Comes.done (by rw [hstep]; rfl) ?_)).le (by omega)
    have hn : ∀ n s, s + n = text.size → n < 3 → nextM text n s = none := by
      intro n
      induction n with
      | zero => intro s _ _; rfl
      | succ n ih =>
        intro s hs hn
        unfold nextM
        rw [show isM text s = false by unfold isM; rw [decide_eq_false (by omega)]; rfl]
        exact ih (s + 1) (by omega) (by omega)
    unfold Found
    rw [hn _ _ (by omega) h3]
    exact hstep
  · rw [search_start text s must hs h3]
    exact look_comes text _ s _ _ _ (by omega)

section
variable {M : Model} {A : Around} {E : Value → Shared → Prop} {s : Shared}
theorem wp_drive {P : Sre.M → Prop} {Q : Sre.M → Shared → Prop} : ∀ (turns : Nat) (m : Sre.M) (k : Nat), Comes m k P → k ≤ 4 * turns → 0 < turns → (∀ m', P m' → m'.outcome.isSome = true → Q m' s) → wpAny M A (reDrive turns m) Q E s
  | 0, _, _, _, _, h0, _ => absurd h0 (Nat.lt_irrefl _)
  | turns + 1, m, k, ⟨j, hj, hp, ho⟩, hk, _, hQ => by
    unfold reDrive
    show wpAny M A (if (runFor 4 m).outcome.isSome = true then pure (runFor 4 m) else do rule "sre.turn"; reDrive turns (runFor 4 m)) Q E s
    by_cases h4 : (runFor 4 m).outcome.isSome = true
    · rw [if_pos h4]
      refine wpAny_pure (hQ _ ?_ h4)
      by_cases hj4 : j ≤ 4
      · have e : runFor 4 m = runFor j m := by
          rw [show 4 = j + (4 - j) by omega, runFor_add, runFor_done ho]
        rw [e]; exact hp
      · have e : runFor j m = runFor 4 m := by
          rw [show j = 4 + (j - 4) by omega, runFor_add, runFor_done h4]
        rw [← e]; exact hp
    · rw [if_neg h4]
      have hj4 : ¬ j ≤ 4 := by
        intro h
        apply h4
        rw [show 4 = j + (4 - j) by omega, runFor_add, runFor_done ho]
        exact ho
      have e : runFor j m = runFor (j - 4) (runFor 4 m) := by
        rw [← runFor_add]
        congr 1
        omega
      rw [e] at hp ho
      exact wpAny_bind (wpAny_rule (wp_drive turns (runFor 4 m) (j - 4) ⟨j - 4, Nat.le_refl _, hp, ho⟩ (by omega) (by omega) hQ))
theorem wp_rules {Q : PUnit → Shared → Prop} (b : Nat → Bool) (tag : Nat → String) : ∀ (l : List Nat), Q PUnit.unit s →
    wpAny M A (forIn l PUnit.unit (fun (i : Nat) (_ : PUnit) => if b i = true then (do PySem.rule (tag i); pure (ForInStep.yield PUnit.unit) : Sem (ForInStep PUnit)) else pure (ForInStep.yield PUnit.unit))) Q E s
  | [], h => by
    rw [List.forIn_nil]
    exact wpAny_pure h
  | i :: l, h => by
    rw [List.forIn_cons]
    refine wpAny_bind ?_
    by_cases hb : b i = true
    · rw [if_pos hb]
      exact wpAny_bind (wpAny_rule (wpAny_pure (wp_rules b tag l h)))
    · rw [if_neg hb]
      exact wpAny_pure (wp_rules b tag l h)

theorem wp_next {text : Array Nat} {st : Nat} {must : Bool} {Q : Option Sre.M → Shared → Prop} (hs : st ≤ text.size) (hl : text.size ≤ 16777216)
    (h1 : ∀ i m, nextM text (text.size - st) st = some i → m.start = i → m.handed = i + 3 → m.lastmark = -1 → m.lastindex = -1 → m.marks = #[] → Q (some m) s)
    (h0 : nextM text (text.size - st) st = none → Q none s) : wpAny M A (reRunToEnd (forSearch reCode text 0 st text.size must)) Q E s := by
  unfold reRunToEnd
  refine wpAny_bind (wp_drive _ _ _ (search_comes text st must hs) (by omega) (by decide) fun m hf ho => ?_)
  refine wpAny_bind (wp_rules _ _ _ ?_)
  unfold Found at hf
  cases hn : nextM text (text.size - st) st with
  | none =>
    rw [hn] at hf
    have hf' : m.outcome = some .failed := hf
    rw [hf']
    exact wpAny_pure (h0 hn)
  | some i =>
    rw [hn] at hf
    obtain ⟨o, a, b, c, d, e⟩ := (hf : m.outcome = some .matched ∧ m.start = i ∧ m.handed = i + 3 ∧ m.lastmark = -1 ∧ m.lastindex = -1 ∧ m.marks = #[])
    rw [o]
    exact wpAny_pure (h1 i m hn a b c d e)
end
end Mine
end PartR3
section PartR4
open PySem PySem.W PyProof.Rows PySem.Spec PySem.Calls PySem.Builtin PySem.Builtin.Re
set_option maxRecDepth 100000
set_option maxHeartbeats 4000000
namespace Mine

def matchObj (x : PySem.Str) (t : Tok) (lim : Nat) (tp : Addr) : Obj := { cls := .type "re.Match", data := .fields #[.str x t, .ref 36, rawInt 0, rawInt lim, rawInt (-1), .ref tp] }
def spanObj (i j : Nat) : Obj := { cls := .type "tuple", data := .seq #[rawInt i, rawInt j] }

section
variable {M : Model} {A : Around} {E : Value → Shared → Prop} {s : Shared}
theorem wp_group {x : PySem.Str} {t k : Tok} {lim i : Nat} {mo tp : Addr} {Q : Fin → Shared → Prop} (hm : s.heap.get? mo = some (matchObj x t lim tp)) (ht : s.heap.get? tp = some (spanObj i (i + 3))) (hl : x.length ≤ 1000)
    (h : Q (.done (.ret (.str (⟨x.cps.extract i (i + 3)⟩ : PySem.Str) s.toks))) { s with toks := s.toks + 1 }) :
    wpAny M A (Builtin.«re.Match.group» ⟨[.ref mo, .int 0 k], []⟩) Q E s := by
  obtain ⟨hp, g, d, tk, os⟩ := s
  unfold Builtin.«re.Match.group»
  repeat (any_goals (first | assumption | wp_step))
  have hsp : Array.map reRawOf ((some #[rawInt (i : Nat), rawInt ((i + 3 : Nat) : Int)]).getD #[]) = #[((i : Nat) : Int), ((i + 3 : Nat) : Int)] := by simp [reRawOf, rawInt]
  rw [hsp]
  refine wpAny_ite_false (decide_eq_false fun e => ?_) ?_
  · have e' : (decide (((i : Nat) : Int) < 0) || decide (((i + 3 : Nat) : Int) < 0)) = true := e
    simp at e'
    omega
  have hz : (⟨x.cps.extract i (i + 3)⟩ : PySem.Str).length ≤ sizeLine := by
    show (x.cps.extract i (i + 3)).size ≤ sizeLine
    have : x.cps.size ≤ 1000 := hl
    rw [sizeLine_eq, Array.size_extract]
    omega
  show wpAny _ _ (do let y ← reTextOf (.str x t); match y with | (text, kind) => reSlice text kind i (i + 3)) _ _ _
  repeat (any_goals (first | assumption | wp_step))
end
end Mine
end PartR4
section PartR5
open PySem PySem.W PyProof.Rows PySem.Spec PySem.Calls PySem.Builtin PySem.Builtin.Re
set_option maxRecDepth 100000
set_option maxHeartbeats 4000000
namespace Mine
def patObj (t1 t2 : Tok) (pt : PySem.Str) : Obj := { cls := .type "re.Pattern", data := .fields #[.str pt t1, .int 256 t2, .int 0 0, .none, .none, .ref 35, .int 0 0] }
def codeObj : Obj := { cls := .type "tuple", data := .seq #[.int 14 0, .int 8 0, .int 1 0, .int 3 0, .int 3 0, .int 1 0, .int 1 0, .int 61 0, .int 0 0, .int 16 0, .int 61 0, .int 24 0, .int 16 0, .int 2 0, .int 2 0, .int 13 0, .int 11 0, .int 9 0, .int 0 0, .int 67043328 0, .int 126 0, .int 126 0, .int 0 0, .int 0 0, .int 0 0, .int 0 0, .int 0 0, .int 1 0, .int 1 0] }

section
variable {M : Model} {A : Around} {E : Value → Shared → Prop} {s : Shared}
theorem code_nats : (Array.map reRawOf ((some #[Value.int 14 0, .int 8 0, .int 1 0, .int 3 0, .int 3 0, .int 1 0, .int 1 0, .int 61 0, .int 0 0, .int 16 0, .int 61 0, .int 24 0, .int 16 0, .int 2 0, .int 2 0, .int 13 0, .int 11 0, .int 9 0, .int 0 0, .int 67043328 0, .int 126 0, .int 126 0, .int 0 0, .int 0 0, .int 0 0, .int 0 0, .int 0 0, .int 1 0, .int 1 0]).getD #[])).map (·.toNat) = reCode := by simp [reRawOf, reCode]
theorem wp_target {x : PySem.Str} {t t1 t2 : Tok} {pt : PySem.Str} {Q : ReTarget → Shared → Prop} (h36 : s.heap.get? 36 = some (patObj t1 t2 pt)) (h35 : s.heap.get? 35 = some codeObj)
    (h : Q { pattern := .ref 36, string := .str x t, code := reCode, text := x.cps, kind := 0, groups := 0, pos := 0, lim := x.cps.size } s) :
    wpAny M A (reWholeTarget (.ref 36) (.str x t)) Q E s := by
  obtain ⟨hp, g, d, tk, os⟩ := s
  unfold reWholeTarget
  repeat (any_goals (first | assumption | wp_step))
  rw [code_nats]
  exact h

theorem wp_push {h₀ : Heap} {L l : Addr} {m : PySem.Str → Option Value} {items : Array Value} {n : Nat} {v : Value} {rest : List (Addr × Obj)} {Q : Unit → Shared → Prop} (F : Fr h₀ L s.heap m) (N : News h₀ L s.heap ((l, listOf items n) :: rest)) (hne : ∀ p ∈ rest, p.1 ≠ l) (hz : items.size ≤ 100000)
    (h : ∀ h', Fr h₀ L h' m → News h₀ L h' ((l, listOf (items.push v) (n + 1)) :: rest) → Q () { s with heap := h' }) : wpAny M A (updateSeq l (·.push v)) Q E s := by
  have z := N (l, listOf items n) (.head _)
  have hs := Heap.SameBut.update s.heap l (Obj.mapSeq (·.push v))
  have ho : (s.heap.update l (Obj.mapSeq (·.push v))).get? l = some (listOf (items.push v) (n + 1)) := by
    rw [Heap.get?_update_self _ z.1 (by rw [mapSeq_push]; rfl), mapSeq_push]
  refine wpAny_updateSeq z.1 rfl (h _ (F.change hs z.2.1 z.2.2) (news_set (pre := []) N (fun _ hp => nomatch hp) hne hs ho)) (by rw [sizeLine_eq]; omega) ?_
  show (items.push v).size ≤ sizeLine + 1
  rw [sizeLine_eq, Array.size_push]
  omega
end

/-! ## what header_decode gives -/
def hdec : List Nat → List Nat
  | [] => []
  | 61 :: a :: b :: r => if isHex a && isHex b then (16 * hv a + hv b) :: hdec r else 61 :: hdec (a :: b :: r)
  | c :: r => c :: hdec r
theorem hdec_cons {c : Nat} {r : List Nat} (h : c ≠ 61) : hdec (c :: r) = c :: hdec r := by
  rw [hdec.eq_3]
  exact fun _ _ _ e => absurd e h
theorem hdec_oct {a b : Nat} {r : List Nat} (h1 : isHex a = true) (h2 : isHex b = true) : hdec (61 :: a :: b :: r) = (16 * hv a + hv b) :: hdec r := by
  rw [hdec.eq_2, h1, h2]; simp
theorem hdec_no {a b : Nat} {r : List Nat} (h : (isHex a && isHex b) = false) : hdec (61 :: a :: b :: r) = 61 :: hdec (a :: b :: r) := by
  rw [hdec.eq_2, if_neg (by rw [h]; exact Bool.false_ne_true)]
theorem hdec_short {r : List Nat} (h : r.length < 2) : hdec (61 :: r) = 61 :: hdec r := by
  rw [hdec.eq_3]
  intro a b r' _ e
  rw [e] at h
  simp at h
  omega
theorem hdec_step (x : PySem.Str) (s : Nat) (hs : s < x.length) (hm : isM x.cps s = false) : hdec (x.cps.toList.drop s) = x.cps.toList[s]'(by rw [cps_length]; exact hs) :: hdec (x.cps.toList.drop (s + 1)) := by
  have hl := cps_length x
  rw [List.drop_eq_getElem_cons (by omega)]
  by_cases hc : x.cps.toList[s]'(by omega) = 61
  · rw [hc]
    by_cases h3 : s + 3 ≤ x.length
    · rw [List.drop_eq_getElem_cons (i := s + 1) (by omega), List.drop_eq_getElem_cons (i := s + 1 + 1) (by omega)]
      refine hdec_no ?_
      unfold isM at hm
      have e0 : x.cps.getD s 0 = 61 := by rw [← hc]; simp [Array.getD, show s < x.cps.size from hs]
      have e1 : x.cps.getD (s + 1) 0 = x.cps.toList[s + 1]'(by omega) := by simp [Array.getD, show s + 1 < x.cps.size from by have : x.cps.size = x.length := rfl; omega]
      have e2 : x.cps.getD (s + 2) 0 = x.cps.toList[s + 1 + 1]'(by omega) := by simp [Array.getD, show s + 2 < x.cps.size from by have : x.cps.size = x.length := rfl; omega]
      rw [e0, e1, e2, decide_eq_true (show s + 3 ≤ x.cps.size from h3)] at hm
      simpa using hm
    · exact hdec_short (by rw [List.length_drop]; omega)
  · exact hdec_cons hc
theorem hdec_match (x : PySem.Str) (s : Nat) (hm : isM x.cps s = true) : s + 3 ≤ x.length ∧ isHex (x.cps.toList.getD (s + 1) 0) = true ∧ isHex (x.cps.toList.getD (s + 2) 0) = true ∧ hdec (x.cps.toList.drop s) = pairVal x s :: hdec (x.cps.toList.drop (s + 3)) := by
  have hl := cps_length x
  unfold isM at hm
  simp only [Bool.and_eq_true, decide_eq_true_eq, beq_iff_eq] at hm
  obtain ⟨⟨⟨h3, h0⟩, h1⟩, h2⟩ := hm
  have h3' : s + 3 ≤ x.length := h3
  have hsz : x.cps.size = x.length := rfl
  have e0 : x.cps.getD s 0 = x.cps.toList[s]'(by omega) := by simp [Array.getD, show s < x.cps.size by omega]
  have e1 : x.cps.getD (s + 1) 0 = x.cps.toList[s + 1]'(by omega) := by simp [Array.getD, show s + 1 < x.cps.size by omega]
  have e2 : x.cps.getD (s + 2) 0 = x.cps.toList[s + 2]'(by omega) := by simp [Array.getD, show s + 2 < x.cps.size by omega]
  rw [e0] at h0
  rw [e1] at h1
  rw [e2] at h2
  have g1 : x.cps.toList.getD (s + 1) 0 = x.cps.toList[s + 1]'(by omega) := by rw [List.getD_eq_getElem?_getD, List.getElem?_eq_getElem (by omega)]; rfl
  have g2 : x.cps.toList.getD (s + 2) 0 = x.cps.toList[s + 2]'(by omega) := by rw [List.getD_eq_getElem?_getD, List.getElem?_eq_getElem (by omega)]; rfl
  refine ⟨h3', by rw [g1]; exact h1, by rw [g2]; exact h2, ?_⟩
  rw [List.drop_eq_getElem_cons (by omega), h0, List.drop_eq_getElem_cons (i := s + 1) (by omega), List.drop_eq_getElem_cons (i := s + 1 + 1) (by omega), hdec_oct h1 h2]
  unfold pairVal
  rw [g1, g2]
theorem next_none (x : PySem.Str) : ∀ (n s : Nat), s + n = x.length → nextM x.cps n s = none → hdec (x.cps.toList.drop s) = x.cps.toList.drop s
  | 0, s, h, _ => by
    rw [List.drop_eq_nil_of_le (by rw [cps_length]; omega)]
    rfl
  | n + 1, s, h, hn => by
    unfold nextM at hn
    cases hm : isM x.cps s with
    | true => rw [hm] at hn; cases hn
    | false =>
      rw [hm] at hn
      have ih := next_none x n (s + 1) (by omega) hn
      rw [hdec_step x s (by omega) hm, ih, ← List.drop_eq_getElem_cons (by rw [cps_length]; omega)]
theorem next_some (x : PySem.Str) : ∀ (n s i : Nat), s + n = x.length → nextM x.cps n s = some i → s ≤ i ∧ isM x.cps i = true ∧ hdec (x.cps.toList.drop s) = (x.cps.toList.drop s).take (i - s) ++ hdec (x.cps.toList.drop i)
  | 0, s, i, h, hn => by cases hn
  | n + 1, s, i, h, hn => by
    unfold nextM at hn
    cases hm : isM x.cps s with
    | true =>
      rw [hm] at hn
      have e : s = i := Option.some.inj hn
      subst e
      exact ⟨Nat.le_refl _, hm, by simp⟩
    | false =>
      rw [hm] at hn
      obtain ⟨h1, h2, h3⟩ := next_some x n (s + 1) i (by omega) hn
      refine ⟨by omega, h2, ?_⟩
      rw [hdec_step x s (by omega) hm, h3]
      have e : i - s = (i - (s + 1)) + 1 := by omega
      rw [e]
      conv => rhs; rw [List.drop_eq_getElem_cons (i := s) (by rw [cps_length]; omega)]
      simp
end Mine
end PartR5
section PartR6
open PySem PySem.W PyProof.Rows PySem.Spec PySem.Calls PySem.Builtin PySem.Builtin.Re
set_option maxRecDepth 100000
set_option maxHeartbeats 4000000
namespace Mine
section
variable {prog : Program} {w : World} {A : Around} {h₀ : Heap} {L : Addr} {m : PySem.Str → Option Value} {news : List (Addr × Obj)} {x : PySem.Str} {t t1 t2 : Tok} {pt : PySem.Str}

theorem extract_list (a : Array Nat) (b e : Nat) : (a.extract b e).toList = (a.toList.drop b).take (e - b) := by
  rw [Array.toList_extract]
theorem join_flat : ∀ ss : List PySem.Str, (Str.join (⟨#[]⟩ : PySem.Str) ss).cps.toList = (ss.map (·.cps.toList)).flatten
  | [] => rfl
  | [a] => by simp [Str.join]
  | a :: b :: r => by
    have ih := join_flat (b :: r)
    show (a ++ (⟨#[]⟩ : PySem.Str) ++ Str.join ⟨#[]⟩ (b :: r)).cps.toList = _
    rw [cat_cps, cat_cps, ih]
    simp
theorem flat_len : ∀ ss : List PySem.Str, (ss.map (·.length)).sum = ((ss.map (·.cps.toList)).flatten).length
  | [] => rfl
  | a :: r => by
    have ih := flat_len r
    simp only [List.map_cons, List.sum_cons, List.flatten_cons, List.length_append, ih, cps_length]
theorem hdec_len : ∀ l : List Nat, (hdec l).length ≤ l.length := by
  intro l
  fun_induction hdec l <;> simp_all <;> omega
theorem strsAre_snoc {items : List Value} {ss : List PySem.Str} (h : StrsAre items ss) (y : PySem.Str) (u : Tok) : StrsAre (items ++ [.str y u]) (ss ++ [y]) := StrsAre.append' h (.cons _ _ .nil)
theorem wp_push_if {α : Type} {M : Model} {B : Around} {E : Value → Shared → Prop} {Q : α → Shared → Prop} {s : Shared} {b e : Nat} {T : Sem α} {items : List Value} {ss : List PySem.Str} {cnt : Nat} {l : Addr} (F : Fr h₀ L s.heap m) (N : News h₀ L s.heap ((l, listOf items.toArray cnt) :: news)) (hne : ∀ p ∈ news, p.1 ≠ l)
    (hss : StrsAre items ss) (hz : items.length ≤ 50000) (hx : x.length ≤ 1000)
    (h : ∀ (h' : Heap) (tk' : Nat) (items' : List Value) (ss' : List PySem.Str) (cnt' : Nat), StrsAre items' ss' → items'.length ≤ items.length + 1 → (ss'.map (·.cps.toList)).flatten = (ss.map (·.cps.toList)).flatten ++ (x.cps.extract b e).toList →
      Fr h₀ L h' m → News h₀ L h' ((l, listOf items'.toArray cnt') :: news) → wpAny M B T Q E { s with heap := h', toks := tk' }) :
    wpAny M B (if b < e then (reSlice x.cps 0 b e >>= fun v => updateSeq l (fun xs => xs.push v) >>= fun _ => T) else T) Q E s := by
  refine wpAny_ite_split (fun hlt => ?_) (fun hlt => ?_)
  · refine wpAny_bind (wpAny_mkStr ?_ ?_)
    · refine wpAny_bind (wp_push F N hne (by rw [List.size_toArray]; omega) fun h' F' N' => ?_)
      refine h h' _ (items ++ [.str ⟨x.cps.extract b e⟩ s.toks]) (ss ++ [⟨x.cps.extract b e⟩]) (cnt + 1) (strsAre_snoc hss _ _) (by simp) (by simp) F' ?_
      rw [List.push_toArray] at N'
      exact N'
    · show (x.cps.extract b e).size ≤ sizeLine
      have : x.cps.size ≤ 1000 := hx
      rw [sizeLine_eq, Array.size_extract]
      omega
  · refine h s.heap s.toks items ss cnt hss (by omega) ?_ F N
    have e0 : (x.cps.extract b e).toList = [] := by
      simp
      omega
    rw [e0, List.append_nil]

abbrev loopArgs (x : PySem.Str) (t : Tok) (k st : Nat) (l : Addr) : Args := ⟨[.ref 36, .str x t, .ref 58, rawInt 1, rawInt 0, rawInt k, rawInt st, rawInt st, .bool false, .ref l, .bool false], []⟩

theorem sub_loop (h36 : h₀.get? 36 = some (patObj t1 t2 pt)) (h35 : h₀.get? 35 = some codeObj) (hx : x.length ≤ 1000)
    (hcall : ∀ (i : Nat) (s : Shared) (news' : List (Addr × Obj)) (mo tp : Addr) (Q E : Value → Shared → Prop), isM x.cps i = true → Fr h₀ L s.heap m → News h₀ L s.heap news' → (mo, matchObj x t x.cps.size tp) ∈ news' → (tp, spanObj i (i + 3)) ∈ news' →
      CbRet h₀ L m news' s Q (fun t => .str ⟨#[pairVal x i]⟩ t) → wpAny (model prog w) A.in1 (call (.ref 58) [.ref mo]) Q E s) :
    ∀ (n st k : Nat) (items : List Value) (ss : List PySem.Str) (cnt : Nat) (l : Addr) (s : Shared) (R : Result → Shared → Prop), st + n = x.length → StrsAre items ss → (ss.map (·.cps.toList)).flatten ++ hdec (x.cps.toList.drop st) = hdec x.cps.toList → items.length ≤ 2 * st →
      Fr h₀ L s.heap m → News h₀ L s.heap ((l, listOf items.toArray cnt) :: news) → (∀ p ∈ news, p.1 ≠ l) →
      (∀ (t' : Tok) (h' : Heap) (tk' : Nat), Fr h₀ L h' m → News h₀ L h' news → R (.ok (.ret (.str ⟨(hdec x.cps.toList).toArray⟩ t'))) { s with heap := h', toks := tk' }) →
      codeAny (model prog w) A (.builtin "re.Pattern.sub.loop" (loopArgs x t k st l)) R s := by
  intro n
  induction n using Nat.strongRecOn with
  | ind n ih =>
    intro st k items ss cnt l s R hst hss hfl hil F N hne hret
    have hsz : x.cps.size = x.length := rfl
    refine codeAny_builtin entry_subloop ?_
    rw [Around.under_plainId plain_subloop]
    unfold Builtin.«re.Pattern.sub.loop»
    refine wpAny_bind (wp_target (F.keep _ _ h36) (F.keep _ _ h35) ?_)
    repeat (any_goals ((fail_if_success (with_reducible show wpAny _ _ (reNextFound _ _ _) _ _ _)); (first | assumption | wp_step)))
    have hst0 : ((st : Nat) : Int).toNat = st := Int.toNat_natCast st
    show wpAny _ _ (reRunToEnd (Sre.forSearch reCode x.cps 0 ((st : Nat) : Int).toNat x.cps.size false)) _ _ _
    rw [hst0]
    refine wp_next (by omega) (by omega) ?_ ?_
    · intro i mm hn e1 e2 e3 e4 e5
      have hn' : nextM x.cps n st = some i := by rw [show n = x.cps.size - st by omega]; exact hn
      obtain ⟨hsi, hmi, hdi⟩ := next_some x n st i hst hn'
      obtain ⟨hi3, -, -, hdm⟩ := hdec_match x i hmi
      dsimp only
      rw [e1, e2]
      refine wp_push_if (x := x) (ss := ss) F N hne hss (by omega) hx ?_
      intro h1 tk1 items1 ss1 cnt1 hss1 hil1 hcat1 F1 N1
      repeat (any_goals ((fail_if_success (with_reducible show wpAny _ _ (reNewMatch _ _ _ _ _ _) _ _ _)); (first | assumption | wp_step)))
      unfold reNewMatch
      dsimp only
      rw [e1, e2, e4]
      refine wpAny_bind ?_
      show wpAny _ _ (newTuple [rawInt (i : Nat), rawInt ((i + 3 : Nat) : Int)]) _ _ _
      refine newTuple_N F1 N1 (fun h2 F2 N2 => ?_) (by rw [sizeLine_eq]; exact Nat.le_of_ble_eq_true rfl)
      refine wpAny_newObj_type ?_ (by show 6 ≤ sizeLine + 2; rw [sizeLine_eq]; decide)
      have F3 := F2.push (matchObj x t x.cps.size h1.objs.size)
      have N3 := N2.push F2 (matchObj x t x.cps.size h1.objs.size)
      refine wpAny_bind (wpAny_holding (wpAny_ite_true (by rfl) ?_))
      refine hcall i _ _ _ h1.objs.size _ _ hmi F3 N3 (.head _) (.tail _ (.head _)) fun t9 h9 tk9 F9 N9 => ?_
      refine wpAny_ite_true (by rfl) (wpAny_bind ?_)
      have N9' : News h₀ L h9 ((l, listOf items1.toArray cnt1) :: news) := fun p hp => N9 p (List.mem_cons_of_mem _ (List.mem_cons_of_mem _ hp))
      refine wp_push F9 N9' hne (by rw [List.size_toArray]; omega) fun h5 F5 N5 => ?_
      rw [List.push_toArray] at N5
      refine wpAny_pure ⟨plainId_quiet plain_subloop _, ?_⟩
      have hb : (i + 3 == i) = false := by simp
      rw [hb]
      refine ih (x.length - (i + 3)) (by omega) (i + 3) (k + 1) (items1 ++ [.str ⟨#[pairVal x i]⟩ t9]) (ss1 ++ [⟨#[pairVal x i]⟩]) _ l _ R (by omega) (strsAre_snoc hss1 _ _) ?_ (by rw [List.length_append, List.length_singleton]; omega) F5 N5 hne ?_
      · rw [List.map_append, List.flatten_append, hcat1, ← hfl, hdi, extract_list, hdm]
        simp
      · intro t' h' tk' F' N'
        exact hret t' h' tk' F' N'
    · intro hn
      have hn' : nextM x.cps n st = none := by rw [show n = x.cps.size - st by omega]; exact hn
      have hd := next_none x n st hst hn'
      dsimp only
      refine wp_push_if (x := x) (ss := ss) F N hne hss (by omega) hx ?_
      intro h1 tk1 items1 ss1 cnt1 hss1 hil1 hcat1 F1 N1
      have hfl1 : (ss1.map (·.cps.toList)).flatten = hdec x.cps.toList := by
        rw [hcat1, ← hfl, hd, extract_list, List.take_of_length_le (by rw [List.length_drop, cps_length]; omega)]
      have hgl : h1.get? l = some (listOf items1.toArray cnt1) := (N1 _ (.head _)).1
      have e00 : x.cps.extract 0 0 = #[] := by simp
      refine wpAny_bind (wpAny_mkStr ?_ ?_)
      · rw [e00]
        refine wpAny_bind (wpAny_bind (wpAny_load hgl (wpAny_pure ?_)))
        cases items1 with
        | nil =>
          cases hss1
          refine wpAny_ite_true (by rfl) (wpAny_bind (wpAny_pure (wpAny_ite_false (by decide) (wpAny_pure ?_))))
          have e9 : hdec x.cps.toList = [] := by rw [← hfl1]; rfl
          have hr := hret tk1 h1 (tk1 + 1) F1 fun p hp => N1 p (List.mem_cons_of_mem _ hp)
          rw [e9] at hr
          exact hr
        | cons v vs =>
          refine wpAny_ite_false (by rfl) (wpAny_bind ?_)
          have hdl := hdec_len x.cps.toList
          have hls := flat_len ss1
          rw [hfl1] at hls
          have hxl := cps_length x
          refine join_list (items := (v :: vs).toArray) (ys := ss1) ⟨_, hgl, rfl, _, rfl⟩ hss1 (by
            show _ + _ * (#[] : Array Nat).size ≤ _
            have : (#[] : Array Nat).size = 0 := rfl
            rw [this]
            omega) fun t' k' => ?_
          have e9 : Txt.join (⟨#[]⟩ : PySem.Str) ss1 = ⟨(hdec x.cps.toList).toArray⟩ := by
            apply str_ext
            show (PySem.Builtin.Str.glued _ _).cps.toList = _
            rw [StrLaws.glued_eq_join, join_flat, hfl1]
          rw [e9]
          exact wpAny_ite_false (by decide) (wpAny_pure (hret t' h1 k' F1 fun p hp => N1 p (List.mem_cons_of_mem _ hp)))
      · show (x.cps.extract 0 0).size ≤ sizeLine
        rw [e00, sizeLine_eq]
        decide
end
end Mine
end PartR6
section PartR7
open PySem PySem.W PyProof.Rows PySem.Spec PySem.Calls PySem.Builtin PySem.Builtin.Re
set_option maxRecDepth 100000
set_option maxHeartbeats 4000000
namespace Mine
theorem fn_call_lookup : typeLookup (.type "function") "__call__" = pure (some (.builtin "function.__call__")) := by rw [typeLookup_type, builtinLookup_eq_fast]; kernel_rfl
theorem str_no_bytearray : isSubtype (.type "str") (.type "bytearray") = pure false := by rw [isSubtype_type]; kernel_rfl
section
variable {prog : Program} {w : World} {A : Around} {h₀ : Heap} {L : Addr} {m : PySem.Str → Option Value} {news : List (Addr × Obj)} {x : PySem.Str} {t t1 t2 : Tok} {pt : PySem.Str} {s : Shared} {Q E : Value → Shared → Prop}

theorem call_sub (h36 : h₀.get? 36 = some (patObj t1 t2 pt)) (h35 : h₀.get? 35 = some codeObj) (h58 : ∃ o, h₀.get? 58 = some o ∧ o.cls = .type "function") (hx : x.length ≤ 1000)
    (hcall : ∀ (i : Nat) (s : Shared) (news' : List (Addr × Obj)) (mo tp : Addr) (Q E : Value → Shared → Prop), isM x.cps i = true → Fr h₀ L s.heap m → News h₀ L s.heap news' → (mo, matchObj x t x.cps.size tp) ∈ news' → (tp, spanObj i (i + 3)) ∈ news' →
      CbRet h₀ L m news' s Q (fun t => .str ⟨#[pairVal x i]⟩ t) → wpAny (model prog w) A.in1 (call (.ref 58) [.ref mo]) Q E s)
    (F : Fr h₀ L s.heap m) (N : News h₀ L s.heap news)
    (hret : ∀ (t' : Tok) (h' : Heap) (tk' : Nat), Fr h₀ L h' m → News h₀ L h' news → Q (.str ⟨(hdec x.cps.toList).toArray⟩ t') { s with heap := h', toks := tk' }) :
    wpAny (model prog w) A (call (.builtin "re.Pattern.sub") [.ref 36, .ref 58, .str x t]) Q E s := by
  have hT : s.TypeIs (.ref 36) "re.Pattern" := ⟨_, F.keep _ _ h36, rfl⟩
  obtain ⟨o58, ho58, hc58⟩ := h58
  have hF : s.TypeIs (.ref 58) "function" := ⟨o58, F.keep _ _ ho58, hc58⟩
  refine wpAny_call (codeAny_call_builtin slot_sub.plain entry_sub (slot_sub.check _ _ _ _ _ _ _ _ hT (args_sub _ _ _) ?_))
  have f1 := fn_call_lookup
  have f2 := str_no_bytearray
  unfold Builtin.«re.Pattern.sub» reSubstitute
  have hX : s.TypeIs (.str x t) "str" := typeIs_str _ _ _
  repeat (any_goals ((fail_if_success (with_reducible show wpAny _ _ (reWholeTarget _ _) _ _ _)); (first | assumption | wp_step)))
  refine wp_target (F.keep _ _ h36) (F.keep _ _ h35) ?_
  repeat (any_goals ((fail_if_success (with_reducible show wpAny _ _ (newList _) _ _ _)); (first | assumption | wp_step)))
  refine newList_N F N (fun h' F' N' => ?_) (by decide)
  refine wpAny_pure ⟨plainId_quiet plain_subloop _, ?_⟩
  refine sub_loop h36 h35 hx hcall x.length 0 0 [] [] 0 s.heap.objs.size _ _ (by omega) .nil (by simp) (by simp) F' N' (fun p hp => Nat.ne_of_lt (Heap.lt_size (N p hp).1)) ?_
  intro t' h' tk' F' N'
  exact hret t' h' tk' F' N'

theorem get_sub {pl : Sem Bool} {Q : Value × List Value → Shared → Prop} (h36 : h₀.get? 36 = some (patObj t1 t2 pt)) (F : Fr h₀ L s.heap m) (h : Q (.builtin "re.Pattern.sub", [.ref 36]) s) : wpAny (model prog w) A (getMethod (.ref 36) "sub" pl) Q E s :=
  getMethod_builtin ⟨_, F.keep _ _ h36, rfl⟩ plain_pattern slot_sub type_sub (fun a e => by cases e; exact ⟨_, F.keep _ _ h36, rfl⟩) h
theorem get_group {lim : Nat} {mo tp : Addr} {pl : Sem Bool} {Q : Value × List Value → Shared → Prop} (N : News h₀ L s.heap news) (hm : (mo, matchObj x t lim tp) ∈ news) (h : Q (.builtin "re.Match.group", [.ref mo]) s) : wpAny (model prog w) A (getMethod (.ref mo) "group" pl) Q E s :=
  getMethod_builtin ⟨_, (N _ hm).1, rfl⟩ plain_match slot_group type_group (fun a e => by cases e; exact ⟨_, (N _ hm).1, rfl⟩) h
theorem call_group {lim i : Nat} {mo tp : Addr} {k : Tok} (N : News h₀ L s.heap news) (hm : (mo, matchObj x t lim tp) ∈ news) (ht : (tp, spanObj i (i + 3)) ∈ news) (hx : x.length ≤ 1000)
    (h : ∀ t' tk', Q (.str (⟨x.cps.extract i (i + 3)⟩ : PySem.Str) t') { s with toks := tk' }) : wpAny (model prog w) A (call (.builtin "re.Match.group") [.ref mo, .int 0 k]) Q E s := by
  refine wpAny_call (codeAny_call_builtin slot_group.plain entry_group (slot_group.check _ _ _ _ _ _ _ _ ⟨_, (N _ hm).1, rfl⟩ (args_group _ _) ?_))
  exact wp_group (N _ hm).1 (N _ ht).1 hx (h _ _)
end
theorem ext_slice {x : PySem.Str} {i : Nat} (h : i + 3 ≤ x.length) (hb : isHex (x.cps.toList.getD (i + 1) 0) = true) (hc : isHex (x.cps.toList.getD (i + 2) 0) = true) :
    int16? (Txt.slice (⟨x.cps.extract i (i + 3)⟩ : PySem.Str) (some 1) (some 3)) = some ((pairVal x i : Nat) : Int) ∧ pairVal x i < 256 := by
  have hl := cps_length x
  have g1 : x.cps.toList.getD (i + 1) 0 = x.cps.toList[i + 1]'(by omega) := by rw [List.getD_eq_getElem?_getD, List.getElem?_eq_getElem (by omega)]; rfl
  have g2 : x.cps.toList.getD (i + 2) 0 = x.cps.toList[i + 2]'(by omega) := by rw [List.getD_eq_getElem?_getD, List.getElem?_eq_getElem (by omega)]; rfl
  have e1 : (⟨x.cps.extract i (i + 3)⟩ : PySem.Str).cps.toList = [x.cps.toList[i]'(by omega), x.cps.toList[i + 1]'(by omega), x.cps.toList[i + 2]'(by omega)] := by
    show (x.cps.extract i (i + 3)).toList = _
    rw [extract_list, List.drop_eq_getElem_cons (by omega), List.drop_eq_getElem_cons (i := i + 1) (by omega), List.drop_eq_getElem_cons (i := i + 1 + 1) (by omega)]
    have e : i + 3 - i = 3 := by omega
    rw [e]
    simp
  have l1 : (⟨x.cps.extract i (i + 3)⟩ : PySem.Str).length = 3 := by rw [← cps_length, e1]; rfl
  have s2 : (Txt.slice (⟨x.cps.extract i (i + 3)⟩ : PySem.Str) (some 1) (some 3)).cps.toList = [x.cps.toList[i + 1]'(by omega), x.cps.toList[i + 2]'(by omega)] := by
    rw [slice_cps, e1, l1]
    rfl
  rw [g1] at hb
  rw [g2] at hc
  have h := hex_pair s2 hb hc
  unfold pairVal
  rw [g1, g2]
  exact h
end Mine
end PartR7
section PartR8
open PySem PySem.W PyProof.Rows PySem.Spec PySem.Calls
set_option maxRecDepth 100000
set_option maxHeartbeats 4000000
namespace Mine
def swap1 (c d : Nat) (k : Nat) : Nat := if k = c then d else k
theorem swap_free {c d : Nat} : ∀ l : List Nat, c ∉ l → l.map (swap1 c d) = l
  | [], _ => rfl
  | a :: r, h => by
    simp only [List.mem_cons, not_or] at h
    rw [List.map_cons, swap_free r h.2]
    unfold swap1
    rw [if_neg (fun e => h.1 e.symm)]
theorem swap_join (c d : Nat) : ∀ parts : List Str, (∀ p ∈ parts, c ∉ p.cps.toList) → (Str.join ⟨#[c]⟩ parts).cps.toList.map (swap1 c d) = (Str.join ⟨#[d]⟩ parts).cps.toList
  | [], _ => rfl
  | [a], h => swap_free _ (h a (.head _))
  | a :: b :: r, h => by
    have ih := swap_join c d (b :: r) fun p hp => h p (.tail _ hp)
    show (a ++ (⟨#[c]⟩ : Str) ++ Str.join ⟨#[c]⟩ (b :: r)).cps.toList.map (swap1 c d) = (a ++ (⟨#[d]⟩ : Str) ++ Str.join ⟨#[d]⟩ (b :: r)).cps.toList
    rw [cat_cps, cat_cps, cat_cps, cat_cps, List.map_append, List.map_append, ih, swap_free _ (h a (.head _))]
    simp [swap1]
theorem replace_map (x : Str) (c d : Nat) : (Txt.replace x ⟨#[c]⟩ ⟨#[d]⟩).cps.toList = x.cps.toList.map (swap1 c d) := by
  rw [StrLaws.replace_one]
  rw [← swap_join c d _ (StrLaws.split_free x c)]
  rw [StrLaws.join_split]
theorem under_cps : Str.ofString "_" = ⟨#[95]⟩ := by decide +kernel
theorem blank_cps : Str.ofString " " = ⟨#[32]⟩ := by decide +kernel
theorem replace_len (x : Str) : (Txt.replace x (Str.ofString "_") (Str.ofString " ")).length = x.length := by
  rw [← cps_length, ← cps_length, under_cps, blank_cps, replace_map, List.length_map]
/-- what header_decode gives -/
def hdrL (l : List Nat) : List Nat := hdec (l.map (swap1 95 32))
def hdrS (x : Str) : Str := ⟨(hdrL x.cps.toList).toArray⟩
theorem hdr_eq (x : Str) : (⟨(hdec (Txt.replace x (Str.ofString "_") (Str.ofString " ")).cps.toList).toArray⟩ : Str) = hdrS x := by
  unfold hdrS hdrL
  rw [under_cps, blank_cps, replace_map]
end Mine
end PartR8
section PartV
open PySem PySem.W PyProof.Rows PySem.Spec PySem.Calls PySem.Builtin.Str
set_option maxRecDepth 100000
set_option maxHeartbeats 4000000
namespace Mine
def whiteB (c : Nat) : Bool := (9 ≤ c && c ≤ 13) || (28 ≤ c && c ≤ 32) || c == 133 || (8192 ≤ c && c ≤ 8202) || c == 160 || c == 5760 || c == 8239 || c == 8287 || c == 12288
def endB (c : Nat) : Bool := c == 13 || c == 11 || c == 12 || c == 28 || c == 29 || c == 30 || c == 133
def looseB (c : Nat) : Bool := c == 61 || (c != 10 && !endB c && whiteB c)
def farL (l : List Nat) : Bool := match l.getLast? with | some c => decide (255 < c) && whiteB c | none => false
def escL (l : List Nat) (k : Nat) : Bool := l.getD k 0 == 61 && isHex (l.getD (k + 1) 0) && isHex (l.getD (k + 2) 0)
def fig (d : Nat) : Nat := if d < 10 then 48 + d else 55 + d

theorem occ_of (Z : Str) {y : Str} {c : Nat} (h : y.cps.toList = [c]) : (occurrences Z y 0 Z.length 1).isEmpty = !(decide (c ∈ Z.cps.toList)) := by
  have q := StrLaws.found_one Z c
  rw [one_sign h, ← q, Bool.not_not]
theorem eq_lit {y : Str} {c d : Nat} (h : y.cps.toList = [c]) : (y == (⟨#[d]⟩ : Str)) = (c == d) := by
  have q := ne_sign (d := d) h
  have e : (y == (⟨#[d]⟩ : Str)) = !(y != (⟨#[d]⟩ : Str)) := by simp [bne]
  rw [e, q]
  by_cases hc : c = d <;> simp [hc]
theorem nl_lit : Str.ofString "\n" = (⟨#[10]⟩ : Str) := by decide +kernel
theorem und_lit : Str.ofString "_" = (⟨#[95]⟩ : Str) := by decide +kernel
theorem ends_lit : (Str.ofString "\r\x0b\x0c\x1c\x1d\x1e\u0085").cps.toList = [13, 11, 12, 28, 29, 30, 133] := by decide +kernel
theorem hexs_lit : (Str.ofString "0123456789ABCDEFabcdef").cps.toList = [48,49,50,51,52,53,54,55,56,57,65,66,67,68,69,70,97,98,99,100,101,102] := by decide +kernel
theorem s_eq {y : Str} {c : Nat} (h : y.cps.toList = [c]) : (y == Str.ofString "=") = (c == 61) := by rw [eq_sign_lit, eq_lit h]
theorem s_nl {y : Str} {c : Nat} (h : y.cps.toList = [c]) : (y == Str.ofString "\n") = (c == 10) := by rw [nl_lit, eq_lit h]
theorem s_nnl {y : Str} {c : Nat} (h : y.cps.toList = [c]) : (y != Str.ofString "\n") = (c != 10) := by simp [bne, s_nl h]
theorem s_und {y : Str} {c : Nat} (h : y.cps.toList = [c]) : (y == Str.ofString "_") = (c == 95) := by rw [und_lit, eq_lit h]
theorem s_end {y : Str} {c : Nat} (h : y.cps.toList = [c]) : (occurrences (Str.ofString "\r\x0b\x0c\x1c\x1d\x1e\u0085") y 0 (Str.ofString "\r\x0b\x0c\x1c\x1d\x1e\u0085").length 1).isEmpty = !(endB c) := by
  rw [occ_of _ h, ends_lit]
  congr 1
  rw [Bool.eq_iff_iff]
  unfold endB
  simp [or_assoc]
theorem s_hex {y : Str} {c : Nat} (h : y.cps.toList = [c]) : (occurrences (Str.ofString "0123456789ABCDEFabcdef") y 0 (Str.ofString "0123456789ABCDEFabcdef").length 1).isEmpty = !(isHex c) := by
  rw [occ_of _ h, hexs_lit]
  congr 1
  rw [Bool.eq_iff_iff]
  unfold isHex
  simp only [List.mem_cons, List.not_mem_nil, or_false, Bool.or_eq_true, Bool.and_eq_true, decide_eq_true_eq]
  omega
theorem s_full {x : Str} : (x != Str.ofString "") = decide (x.length ≠ 0) := by
  have e : (Str.ofString "") = (⟨#[]⟩ : Str) := by decide +kernel
  rw [e]
  obtain ⟨a⟩ := x
  by_cases h : a.size = 0
  · have : a = #[] := Array.size_eq_zero_iff.mp h
    subst this
    simp [Str.length]
  · have : a ≠ #[] := fun q => h (by rw [q]; rfl)
    simp [Str.length, this]
theorem item_at {x : Str} {k : Int} (h0 : 0 ≤ k) (h1 : k < x.length) : (Txt.item x k).cps.toList = [x.cps.toList.getD k.toNat 0] := by
  have hl := cps_length x
  rw [item_cps h0 h1, List.getD_eq_getElem?_getD, List.getElem?_eq_getElem (by omega)]
  rfl
theorem slice_one {x : Str} {j e : Int} (h0 : 0 ≤ j) (he : e = j + 1) : (Txt.slice x (some j) (some e) != Str.ofString "") = decide (j < x.length) := by
  rw [s_full]
  have hl := cps_length x
  have h := congrArg List.length (slice_cps x (some j) (some e))
  rw [cps_length, List.length_drop, List.length_take] at h
  have c1 : clipN (some j) 0 x.length = min j.toNat x.length := by unfold clipN; simp only; omega
  have c2 : clipN (some e) x.length x.length = min (j.toNat + 1) x.length := by unfold clipN; simp only; omega
  rw [c1, c2] at h
  rw [h]
  rw [Bool.eq_iff_iff]
  simp only [decide_eq_true_eq]
  omega
theorem figs : ∀ c : Nat, c < 256 → (Str.ofString "=" ++ Txt.item (Str.ofString "0123456789ABCDEF") (Int.fdiv (c : Int) 16) ++ Txt.item (Str.ofString "0123456789ABCDEF") (Int.fmod (c : Int) 16)) = (⟨#[61, fig (c / 16), fig (c % 16)]⟩ : Str) := by
  decide +kernel
end Mine
end PartV
section PartV2
open PySem PySem.W PyProof.Rows PySem.Spec PySem.Calls PySem.Builtin.Str
set_option maxRecDepth 100000
set_option maxHeartbeats 4000000
namespace Mine
def priceB (l : List Nat) (k : Nat) : Bool := escL l k || l.getD k 0 == 95 || endB (l.getD k 0)
def softB (l : List Nat) (k : Nat) : Bool := l.getD k 0 == 10 && decide (0 < k) && looseB (l.getD (k - 1) 0)
def lastB (l : List Nat) (k : Nat) : Bool := decide (k + 1 = l.length) && looseB (l.getD k 0) && decide (l.getD k 0 < 256)
def octL (c : Nat) : List Nat := [61, fig (c / 16), fig (c % 16)]
def spellAt (l : List Nat) (k : Nat) : List Nat :=
  if priceB l k || lastB l k then octL (l.getD k 0) else if softB l k then [61, 48, 65] else [l.getD k 0]
def spellTo (l : List Nat) (n : Nat) : List Nat := (List.range n).flatMap (spellAt l)
def spellL (l : List Nat) : List Nat := spellTo l l.length
def costAt (l : List Nat) (k : Nat) : Nat := if priceB l k || softB l k then 2 else 0
def costTo (l : List Nat) (n : Nat) : Nat := ((List.range n).map (costAt l)).sum
def looseEnd (l : List Nat) : Bool := match l.getLast? with | some c => looseB c | none => false
def countL (l : List Nat) : Nat := l.length + costTo l l.length + (if looseEnd l then 2 else 0)
theorem spellTo_succ (l : List Nat) (n : Nat) : spellTo l (n + 1) = spellTo l n ++ spellAt l n := by
  unfold spellTo
  rw [List.range_succ, List.flatMap_append]
  simp
theorem costTo_succ (l : List Nat) (n : Nat) : costTo l (n + 1) = costTo l n + costAt l n := by
  unfold costTo
  rw [List.range_succ, List.map_append, List.sum_append]
  simp
end Mine
end PartV2
section PartV3
open PySem PySem.W PyProof.Rows PySem.Spec PySem.Calls PySem.Builtin.Str
set_option maxRecDepth 100000
set_option maxHeartbeats 4000000
namespace Mine
theorem fig_len (c : Nat) : (octL c).length = 3 := rfl
theorem spellAt_len (l : List Nat) (k : Nat) : (spellAt l k).length ≤ 3 := by
  unfold spellAt
  split
  · exact Nat.le_refl _
  · split <;> simp
theorem spellTo_len (l : List Nat) : ∀ n, (spellTo l n).length ≤ 3 * n
  | 0 => Nat.le_refl _
  | n + 1 => by
    have h1 := spellTo_len l n
    have h2 := spellAt_len l n
    rw [spellTo_succ, List.length_append]
    omega
section
variable {x : Str} {j : Nat}
theorem p_esc (h : escL x.cps.toList (j : Int).toNat = true) : priceB x.cps.toList j = true := by
  rw [Int.toNat_natCast] at h; unfold priceB; rw [h]; rfl
theorem p_und (h1 : (j : Int) < x.length) (h : (Txt.item x (j : Int) == Str.ofString "_") = true) : priceB x.cps.toList j = true := by
  rw [s_und (item_at (by omega) h1), Int.toNat_natCast] at h; unfold priceB; rw [h]; simp
theorem p_end (h1 : (j : Int) < x.length) (h : (occurrences (Str.ofString "\r\x0b\x0c\x1c\x1d\x1e\u0085") (Txt.item x (j : Int)) 0 (Str.ofString "\r\x0b\x0c\x1c\x1d\x1e\u0085").length 1).isEmpty = false) : priceB x.cps.toList j = true := by
  rw [s_end (item_at (by omega) h1), Int.toNat_natCast, Bool.not_eq_false'] at h; unfold priceB; rw [h]; simp
theorem p_no (h1 : (j : Int) < x.length) (h : escL x.cps.toList (j : Int).toNat = false) (h2 : (Txt.item x (j : Int) == Str.ofString "_") = false) (h3 : (occurrences (Str.ofString "\r\x0b\x0c\x1c\x1d\x1e\u0085") (Txt.item x (j : Int)) 0 (Str.ofString "\r\x0b\x0c\x1c\x1d\x1e\u0085").length 1).isEmpty = true) : priceB x.cps.toList j = false := by
  rw [Int.toNat_natCast] at h
  rw [s_und (item_at (by omega) h1), Int.toNat_natCast] at h2
  rw [s_end (item_at (by omega) h1), Int.toNat_natCast, Bool.not_eq_true'] at h3
  unfold priceB; rw [h, h2, h3]; rfl
theorem l_no1 (h : (j : Int) ≠ (x.length : Int) - 1) : lastB x.cps.toList j = false := by
  have hl := cps_length x
  unfold lastB
  rw [decide_eq_false (by omega : ¬ j + 1 = x.cps.toList.length)]; simp
theorem l_no2 (h : looseB (x.cps.toList.getD (j : Int).toNat 0) = false) : lastB x.cps.toList j = false := by
  rw [Int.toNat_natCast] at h; unfold lastB; rw [h]; simp
theorem num_at (h1 : (j : Int) < x.length) : (Txt.item x (j : Int)).cps.getD 0 0 = x.cps.toList.getD j 0 := by
  have h := item_at (k := (j : Int)) (by omega) h1
  rw [one_sign h, Int.toNat_natCast]
  rfl
theorem l_no3 (h1 : (j : Int) < x.length) (h : ¬ (((Txt.item x (j : Int)).cps.getD 0 0 : Nat) : Int) < 256) : lastB x.cps.toList j = false := by
  rw [num_at h1] at h
  unfold lastB
  rw [decide_eq_false (by omega : ¬ x.cps.toList.getD j 0 < 256), Bool.and_false]
theorem l_yes (h1 : (j : Int) < x.length) (h : (j : Int) = (x.length : Int) - 1) (h2 : looseB (x.cps.toList.getD (j : Int).toNat 0) = true) (h3 : (((Txt.item x (j : Int)).cps.getD 0 0 : Nat) : Int) < 256) : lastB x.cps.toList j = true := by
  have hl := cps_length x
  rw [num_at h1] at h3
  rw [Int.toNat_natCast] at h2
  unfold lastB
  rw [decide_eq_true (by omega : x.cps.toList.getD j 0 < 256), decide_eq_true (by omega : j + 1 = x.cps.toList.length), h2]
  rfl
theorem s_no1 (h1 : (j : Int) < x.length) (h : (Txt.item x (j : Int) == Str.ofString "\n") = false) : softB x.cps.toList j = false := by
  rw [s_nl (item_at (by omega) h1), Int.toNat_natCast] at h; unfold softB; rw [h]; rfl
theorem s_no2 (h : ¬ (0 : Int) < (j : Int)) : softB x.cps.toList j = false := by
  unfold softB; rw [decide_eq_false (by omega : ¬ 0 < j)]; simp
theorem s_no3 (h : looseB (x.cps.toList.getD ((j : Int) - 1).toNat 0) = false) : softB x.cps.toList j = false := by
  have e : ((j : Int) - 1).toNat = j - 1 := by omega
  rw [e] at h; unfold softB; rw [h]; simp
theorem s_yes (h1 : (j : Int) < x.length) (h : (Txt.item x (j : Int) == Str.ofString "\n") = true) (h2 : (0 : Int) < (j : Int)) (h3 : looseB (x.cps.toList.getD ((j : Int) - 1).toNat 0) = true) : softB x.cps.toList j = true := by
  have e : ((j : Int) - 1).toNat = j - 1 := by omega
  rw [e] at h3
  rw [s_nl (item_at (by omega) h1), Int.toNat_natCast] at h
  unfold softB; rw [h, h3, decide_eq_true (by omega : 0 < j)]; rfl
theorem price_lt {l : List Nat} (h : priceB l j = true ∨ lastB l j = true) : l.getD j 0 < 256 := by
  unfold priceB lastB escL endB at h
  simp only [Bool.or_eq_true, Bool.and_eq_true, beq_iff_eq, decide_eq_true_eq] at h
  omega
theorem sp_oct {d : Str} (hP : d.cps.toList = spellTo x.cps.toList j) (h : priceB x.cps.toList j = true ∨ lastB x.cps.toList j = true) {n : Nat} (hn : n = j + 1) :
    (d ++ (⟨#[61, fig (x.cps.toList.getD (j : Int).toNat 0 / 16), fig (x.cps.toList.getD (j : Int).toNat 0 % 16)]⟩ : Str)).cps.toList = spellTo x.cps.toList n := by
  subst hn
  rw [cat_cps, hP, spellTo_succ, Int.toNat_natCast]
  unfold spellAt
  rw [if_pos (by simpa using h)]
  rfl
theorem sp_soft {d : Str} (hP : d.cps.toList = spellTo x.cps.toList j) (h : priceB x.cps.toList j = false) (h2 : lastB x.cps.toList j = false) (h3 : softB x.cps.toList j = true) {n : Nat} (hn : n = j + 1) :
    (d ++ Str.ofString "=0A").cps.toList = spellTo x.cps.toList n := by
  subst hn
  have e : (Str.ofString "=0A").cps.toList = [61, 48, 65] := by decide +kernel
  rw [cat_cps, hP, spellTo_succ, e]
  unfold spellAt
  rw [if_neg (by simp [h, h2]), if_pos h3]
theorem sp_keep {d : Str} (h1 : (j : Int) < x.length) (hP : d.cps.toList = spellTo x.cps.toList j) (h : priceB x.cps.toList j = false) (h2 : lastB x.cps.toList j = false) (h3 : softB x.cps.toList j = false) {n : Nat} (hn : n = j + 1) :
    (d ++ Txt.item x (j : Int)).cps.toList = spellTo x.cps.toList n := by
  subst hn
  rw [cat_cps, hP, spellTo_succ, item_at (by omega) h1, Int.toNat_natCast]
  unfold spellAt
  rw [if_neg (by simp [h, h2]), if_neg (by simp [h3])]
end
theorem costAt_le (l : List Nat) (k : Nat) : costAt l k ≤ 2 := by
  unfold costAt; split <;> omega
theorem costTo_le (l : List Nat) : ∀ n, costTo l n ≤ 2 * n
  | 0 => Nat.le_refl _
  | n + 1 => by
    have h1 := costTo_le l n
    have h2 := costAt_le l n
    rw [costTo_succ]
    omega
section
variable {l : List Nat} {b d : Int} {j n : Nat}
theorem co_two (hP : d = b + (costTo l j : Nat)) (h : priceB l j = true ∨ softB l j = true) (hn : n = j + 1) : d + 2 = b + (costTo l n : Nat) := by
  subst hn
  rw [costTo_succ]
  unfold costAt
  rw [if_pos (by simpa using h)]
  omega
theorem co_keep (hP : d = b + (costTo l j : Nat)) (h : priceB l j = false) (h2 : softB l j = false) (hn : n = j + 1) : d = b + (costTo l n : Nat) := by
  subst hn
  rw [costTo_succ]
  unfold costAt
  rw [if_neg (by simp [h, h2])]
  omega
end
section
variable {x : Str} {d : Int} {c : Nat}
theorem nn_len (x : Str) : (((x.length : Int) - 0).toNat) = x.cps.toList.length := by rw [cps_length]; omega
theorem co_end1 (hP : d = (x.length : Int) + (costTo x.cps.toList (((x.length : Int) - 0).toNat) : Nat)) (h1 : x.cps.toList.getLast? = some c) (h2 : looseB c = true) : d + 2 = (countL x.cps.toList : Nat) := by
  have hl := cps_length x
  rw [nn_len] at hP
  unfold countL looseEnd
  rw [h1]
  simp only [h2, if_true]
  omega
theorem co_end2 (hP : d = (x.length : Int) + (costTo x.cps.toList (((x.length : Int) - 0).toNat) : Nat)) (h1 : x.cps.toList.getLast? = some c) (h2 : looseB c = false) : d + 0 = (countL x.cps.toList : Nat) := by
  have hl := cps_length x
  rw [nn_len] at hP
  unfold countL looseEnd
  rw [h1]
  simp only [h2, Bool.false_eq_true, if_false]
  omega
theorem co_end3 (hP : d = (x.length : Int) + (costTo x.cps.toList (((x.length : Int) - 0).toNat) : Nat)) (h1 : (x != Str.ofString "") = false) : d + 0 = (countL x.cps.toList : Nat) := by
  have hl := cps_length x
  rw [nn_len] at hP
  rw [s_full, decide_eq_false_iff_not] at h1
  have e : x.cps.toList = [] := List.length_eq_zero_iff.mp (by omega)
  unfold countL looseEnd
  rw [e] at hP hl ⊢
  simp [costTo] at hP ⊢
  simp at hl
  omega
end
end Mine
end PartV3
section PartV4
open PySem PySem.W PyProof.Rows PySem.Spec PySem.Calls PySem.Builtin.Str
set_option maxRecDepth 100000
set_option maxHeartbeats 4000000
namespace Mine
def Good (l : List Nat) : Prop := ∀ k ∈ l, k ≠ 8232 ∧ k ≠ 8233
theorem Good.append {a b : List Nat} (h : Good a) (h2 : Good b) : Good (a ++ b) := fun k hk => (List.mem_append.mp hk).elim (h k) (h2 k)
theorem piece_all : ∀ p ∈ [Str.ofString "=", Str.ofString "3", Str.ofString "=3D", Str.ofString "D", Str.ofString "_", Str.ofString " ", Str.ofString "\t", Str.ofString "\n", Str.ofString "\r", Str.ofString "\x0b", Str.ofString "\u3000", Str.ofString "\u00a0", Str.ofString "=20", Str.ofString "\x1f", Str.ofString "\u2003", Str.ofString "4"], p.length ≤ 3 ∧ Good p.cps.toList := by unfold Good; decide +kernel
theorem piece_ok (i : Nat) : ([Str.ofString "=", Str.ofString "3", Str.ofString "=3D", Str.ofString "D", Str.ofString "_", Str.ofString " ", Str.ofString "\t", Str.ofString "\n", Str.ofString "\r", Str.ofString "\x0b", Str.ofString "\u3000", Str.ofString "\u00a0", Str.ofString "=20", Str.ofString "\x1f", Str.ofString "\u2003", Str.ofString "4"].getD i Str.empty).length ≤ 3 ∧ Good ([Str.ofString "=", Str.ofString "3", Str.ofString "=3D", Str.ofString "D", Str.ofString "_", Str.ofString " ", Str.ofString "\t", Str.ofString "\n", Str.ofString "\r", Str.ofString "\x0b", Str.ofString "\u3000", Str.ofString "\u00a0", Str.ofString "=20", Str.ofString "\x1f", Str.ofString "\u2003", Str.ofString "4"].getD i Str.empty).cps.toList := by
  rw [List.getD_eq_getElem?_getD]
  cases h : ([Str.ofString "=", Str.ofString "3", Str.ofString "=3D", Str.ofString "D", Str.ofString "_", Str.ofString " ", Str.ofString "\t", Str.ofString "\n", Str.ofString "\r", Str.ofString "\x0b", Str.ofString "\u3000", Str.ofString "\u00a0", Str.ofString "=20", Str.ofString "\x1f", Str.ofString "\u2003", Str.ofString "4"] : List Str)[i]? with
  | none => exact ⟨by decide, fun _ h => nomatch h⟩
  | some p => exact piece_all p (List.mem_of_getElem? h)
theorem tx_add {d y : Str} {j n : Nat} (h1 : d.length ≤ 3 * j) (h2 : Good d.cps.toList) (h3 : y.length ≤ 3) (h4 : Good y.cps.toList) (hn : n = j + 1) : (d ++ y).length ≤ 3 * n ∧ Good (d ++ y).cps.toList := by
  subst hn
  have e : (d ++ y).length = d.length + y.length := by rw [← cps_length, cat_cps, List.length_append, cps_length, cps_length]
  refine ⟨by omega, ?_⟩
  rw [cat_cps]
  exact h2.append h4
theorem tx_chr {d : Str} {j n : Nat} {i : Int} (h1 : d.length ≤ 3 * j) (h2 : Good d.cps.toList) (h3 : i.fmod 55296 ≠ 8232) (h4 : i.fmod 55296 ≠ 8233) (hn : n = j + 1) : (d ++ (⟨#[(i.fmod 55296).toNat]⟩ : Str)).length ≤ 3 * n ∧ Good (d ++ (⟨#[(i.fmod 55296).toNat]⟩ : Str)).cps.toList := by
  refine tx_add h1 h2 (by show 1 ≤ 3; omega) ?_ hn
  intro k hk
  have hk : k = (i.fmod 55296).toNat := by simpa using hk
  have h0 : 0 ≤ i.fmod 55296 := Int.fmod_nonneg_of_pos _ (by decide)
  omega
def spellS (x : Str) : Str := ⟨(spellL x.cps.toList).toArray⟩
theorem spellS_cps (x : Str) : (spellS x).cps.toList = spellL x.cps.toList := rfl
theorem spellS_len {x : Str} {n : Nat} (h : x.length ≤ n) : (spellS x).length ≤ 3 * n := by
  rw [← cps_length, spellS_cps]
  have := spellTo_len x.cps.toList x.cps.toList.length
  have hl := cps_length x
  unfold spellL
  omega
theorem decS_len {x : Str} {n : Nat} (h : x.length ≤ n) : (decS x).length ≤ n + 1 := by
  have h1 := goS_all (Txt.lines x)
  have h2 := StrLaws.lines_weight x
  have h3 : (decS x).length = (decL x).length := by rw [← cps_length]; rfl
  rw [h3]
  unfold decL
  split
  · simp
  · simp only
    split
    · rw [List.length_dropLast]; omega
    · omega
theorem kay_cps : Str.ofString "k" = ⟨#[107]⟩ := by decide +kernel
theorem replace_len1 (x : Str) : (Txt.replace x (Str.ofString "_") (Str.ofString "k")).length = x.length := by
  rw [← cps_length, ← cps_length, under_cps, kay_cps, replace_map, List.length_map]
end Mine
end PartV4
section PartP
open PySem PySem.W PyProof.Rows PySem.Spec PySem.Calls
set_option maxRecDepth 100000
set_option maxHeartbeats 8000000
namespace Mine

noncomputable abbrev TheProg : Program := PySem.Challenge.rw_dm5002_02.row.prog
noncomputable abbrev TheLoose : List Str := looseW hd.view_39 [Str.ofString "_twin_re_1", Str.ofString "hexdigits", Str.ofString "decode"]

abbrev Ctr (D U : Nat) (w : World) (mean : ExcName → Option Value) (mg mb : Str → Option Value) (f : Addr) (vs : List Value) (R : Tok → Value) : Prop :=
  ∀ (news : List (Addr × Obj)) (dp un : Nat) (gd : Option (List Code)) (cn : Str) (cs : Scope) (a : Addr) (ccd : Value) (cl : List (Str × Addr)) (outer : List Env) (A₀ : Around) (base h₀ : Heap) (L : Addr) (m : Str → Option Value) (s : Shared) (Q E : Value → Shared → Prop),
    Below A₀ base outer h₀ → Fr h₀ L s.heap m → (hd.heap_39 w.params).In h₀ → News h₀ L s.heap news → Top hd.view_39 TheLoose mean mg mb h₀ → cs.kind = .function →
    dp + D < recursionLimit → un + U < cLine → CbRet h₀ L m news s Q R →
      wpAny (model TheProg w) (ktrTop dp un gd cn cs L a ccd cl outer) (call (.ref f) vs) Q E s
end Mine
end PartP
section PartU
open PySem PySem.W PyProof.Rows PySem.Spec PySem.Calls
set_option maxRecDepth 100000
set_option maxHeartbeats 8000000
namespace Mine
local macro_rules | `(tactic| walk_at "call type:int") => `(tactic| ((with_reducible show wpAny _ _ (call (Value.type "int") [Value.str _ _, Value.int _ _]) _ _ _); refine' call_int16_some ?i1 ?i2 ?_; (case i1 => assumption); (case i2 => (exact Nat.le_trans (slice_13_le _) (by decide)))))
theorem unquote_ctr (w : World) (mean : ExcName → Option Value) (mg mb : Str → Option Value) (x : Str) (t : Tok) (n : Int) (hx : x.length ≤ 1000) (hn : int16? (Txt.slice x (some 1) (some 3)) = some n) (h0 : 0 ≤ n) (h1 : n < 256) :
    Ctr 5 50 w mean mg mb 43 [.str x t] (fun t => .str ⟨#[n.toNat]⟩ t) := by
  unfold Ctr TheProg
  k_fill
  intro news dp un gd cn cs a ccd cl outer A₀ base h₀ L m s Q E B F X N T hk hd hu hret
  dsimp only [CbRet] at hret
  refine wpAny_call ?_
  k_dflt (refine' code_def ?k1 ?k2 ?k3 ?k4 ?k5 ?kA ?kF ?kK ?k6 ?k7 ?k8 ?k9 ?kB ?_ ?c2 ?c3 ?c4 ?c5; (case kA => exact rfl); (case kF => exact rfl); (case kK => assumption); (case k1 => k_asm); (case k2 => k_asm); (case k3 => k_asm); (case k4 => k_asm); (case k5 => k_asm); (case k6 => k_is); (case k7 => k_is); (case k8 => ktr_room); (case k9 => first | exact BindsTo.of_eq rfl | exact binds_K (by k_in) rfl (by k_is) rfl rfl rfl); (case c5 => decide); (case kB => exact locs rfl); (case c2 => exact rfl); (case c3 => exact rfl); (case c4 => exact rfl); k_whole; intro g' L' h' FG' F' N' B' X' T'; (try dsimp only); (try k_lift B'); (try k_fold))
  k_steps
  all_goals exact hret _ _ _ (by k_asm) (by k_asm)
end Mine
end PartU
section PartD
open PySem PySem.W PyProof.Rows PySem.Spec PySem.Calls
set_option maxRecDepth 100000
set_option maxHeartbeats 8000000
set_option linter.unusedSimpArgs false
namespace Mine
theorem decode_ctr (w : World) (mean : ExcName → Option Value) (mg mb : Str → Option Value) (x : Str) (t : Tok) (hx : x.length ≤ 1000) : 
    Ctr 10 100 w mean mg mb 51 [.str x t] (fun t => .str (decS x) t) := by
  unfold Ctr TheProg
  k_fill
  intro news dp un gd cn cs a ccd cl outer A₀ base h₀ L m s Q E B F X N T hk hd hu hret
  dsimp only [CbRet] at hret
  refine wpAny_call ?_
  k_dflt (refine' code_def ?k1 ?k2 ?k3 ?k4 ?k5 ?kA ?kF ?kK ?k6 ?k7 ?k8 ?k9 ?kB ?_ ?c2 ?c3 ?c4 ?c5; (case kA => exact rfl); (case kF => exact rfl); (case kK => assumption); (case k1 => k_asm); (case k2 => k_asm); (case k3 => k_asm); (case k4 => k_asm); (case k5 => k_asm); (case k6 => k_is); (case k7 => k_is); (case k8 => ktr_room); (case k9 => first | exact BindsTo.of_eq rfl | exact binds_K (by k_in) rfl (by k_is) rfl rfl rfl); (case c5 => decide); (case kB => exact locs rfl); (case c2 => exact rfl); (case c3 => exact rfl); (case c4 => exact rfl); k_whole; intro g' L' h' FG' F' N' B' X' T'; (try dsimp only); (try k_lift B'); (try k_fold))
  repeat' ((fail_if_success (with_reducible show wpAny _ _ (PySem.exec (PySem.Stmt.While _ _ _ _) _) _ _ _)); (fail_if_success (with_reducible show wpAny _ _ (PySem.pyIter _) _ _ _)); (fail_if_success (with_reducible show wpAny _ _ (PySem.call (PySem.Value.ref _) _ _) _ _ _)); (fail_if_success (with_reducible show InvEndN _ _ _ _ _ _ _)); (fail_if_success (with_reducible show KswEnd _ _ _ _ _ _ _ _ _ _ _ _)); (first | (k_unfold; (try dsimp only)) | (k_end; wrow_close) | walk1 | (dsimp only; walk1) | (leave1; try dsimp only) | fail "no step"))
  · rename_i hne hA FA NA ls hB kB e1 e2 e3 e4 FB NB
    have hw9 := StrLaws.lines_weight x
    refine' kv_list (fun _ => news) (fun c => [(Str.ofString "decoded", .str c.1 c.2)]) [Str.ofString "i", Str.ofString "n", Str.ofString "c"] (fun i (c : Str × Tok) => c.1.cps.toList = ((Txt.lines x).take i).flatMap goS) (⟨Str.ofString "", ?tok⟩ : Str × Tok) rfl e4 ?hlL ?hln FB ?hN ?hk ?hp ?turn ?done
    case hk => exact List.forall_mem_cons.mpr ⟨by with_unfolding_all rfl, List.forall_mem_nil _⟩
    case hlL => exact Nat.ne_of_gt FA.ns.lt
    case hln => exact fun q hq => Nat.ne_of_lt (Heap.lt_size (NA q hq).1)
    case hN => exact fun p hp => NB p (List.mem_cons_of_mem _ hp)
    case hp => rfl
    case turn =>
      rintro ⟨d, td⟩ i v u hT tkT own hv hoff hP FT NT
      obtain ⟨y, ty, rfl, hy⟩ := StrsAre.item e2 i v hv
      have hP' : d.cps.toList = ((Txt.lines x).take i).flatMap goS := hP
      have hdl : d.length ≤ 2000 := by
        have q1 := goS_take x i
        have q2 : d.cps.toList.length = d.length := Array.length_toList
        rw [hP'] at q2
        omega
      have hyl : y.length ≤ 1000 := by
        have q1 := e3 y (List.mem_of_getElem? hy)
        omega
      (try dsimp only at FT)
      (try k_fold)
      repeat' ((fail_if_success (with_reducible show wpAny _ _ (PySem.exec (PySem.Stmt.While _ _ _ _) _) _ _ _)); (fail_if_success (with_reducible show wpAny _ _ (PySem.pyIter _) _ _ _)); (fail_if_success (with_reducible show wpAny _ _ (PySem.call (PySem.Value.ref _) _ _) _ _ _)); (fail_if_success (with_reducible show InvEndN _ _ _ _ _ _ _)); (fail_if_success (with_reducible show KswEnd _ _ _ _ _ _ _ _ _ _ _ _)); (first | (k_unfold; (try dsimp only)) | (k_end; wrow_close) | walk1 | (dsimp only; walk1) | (leave1; try dsimp only) | fail "no step"))
      · rename_i FW NW
        have hrl : (Txt.rstrip y).cps.toList.length = (Txt.rstrip y).length := Array.length_toList
        refine' ksw_while (fun _ => news ++ own) (fun c => [(Str.ofString "i", .int c.1 c.2.1), (Str.ofString "decoded", .str c.2.2.1 c.2.2.2)]) (fun _ => True) [Str.ofString "c"]
          (fun (c : Int × Tok × Str × Tok) => 0 ≤ c.1 ∧ At (Txt.rstrip y) c.2.2.1 c.1.toNat (d.cps.toList ++ goS y))
          (fun c => (Txt.rstrip y).length - c.1.toNat) (⟨0, ?wtk1, d, ?wtk2⟩ : Int × Tok × Str × Tok) FW NW trivial ?whk ?whp ?wturn ?whE
        case whk => exact (List.forall_mem_cons.mpr ⟨by with_unfolding_all rfl, List.forall_mem_cons.mpr ⟨by with_unfolding_all rfl, List.forall_mem_nil _⟩⟩)
        case whp =>
          rename_i hne2 _ _ _ _
          exact ⟨Int.le_refl _, .inl ⟨by show 0 < (Txt.rstrip y).length; omega, by simp [goS]⟩⟩
        case whE => walk1
        case wturn =>
          rintro ⟨j', tj, dd, tdd⟩ u2 hW tkW hF hPW0 FW2 NW2
          obtain ⟨hj0, hPW⟩ := hPW0
          obtain ⟨j, rfl⟩ := Int.eq_ofNat_of_zero_le hj0
          have hPW : At (Txt.rstrip y) dd j (d.cps.toList ++ goS y) := hPW
          have hj : j ≤ (Txt.rstrip y).length := by
            rcases hPW with q | q
            · exact Nat.le_of_lt q.1
            · exact Nat.le_of_eq q.1
          have hgl := goS_len y
          have hddl : dd.length ≤ 4000 := by
            have q2 : dd.cps.toList.length = dd.length := Array.length_toList
            have q3 : d.cps.toList.length = d.length := Array.length_toList
            rcases hPW with q | q
            · have q4 := congrArg List.length q.2
              simp only [List.length_append] at q4
              omega
            · have q4 := congrArg List.length q.2
              simp only [List.length_append] at q4
              omega
          have eT1 : ((j : Int) + 1).toNat = j + 1 := by omega
          have eT3 : ((j : Int) + 3).toNat = j + 3 := by omega
          (try dsimp only at FW2)
          (try k_fold)
          repeat' ((fail_if_success (with_reducible show wpAny _ _ (PySem.exec (PySem.Stmt.While _ _ _ _) _) _ _ _)); (fail_if_success (with_reducible show wpAny _ _ (PySem.pyIter _) _ _ _)); (fail_if_success (with_reducible show wpAny _ _ (PySem.call (PySem.Value.ref _) _ _) _ _ _)); (fail_if_success (with_reducible show InvEndN _ _ _ _ _ _ _)); (fail_if_success (with_reducible show KswEnd _ _ _ _ _ _ _ _ _ _ _ _)); (first | (k_unfold; (try dsimp only)) | (k_end; wrow_close) | walk1 | (dsimp only; walk1) | (leave1; try dsimp only) | fail "no step"))
          all_goals (first
            | (exfalso; omega)
            | ((with_reducible show KswEnd _ _ _ _ _ _ _ _ _ _ _ _)
               (rename Fr _ _ _ _ => F9x); (rename News _ _ _ _ => N9x)
               (first
                | ((have hE9 : (j : Int) + 1 = ((Txt.rstrip y).length : Int) := by with_reducible assumption)
                   (have hC9 : (Txt.item (Txt.rstrip y) (j : Int) != Str.ofString "=") = false := by with_reducible assumption)
                   (have hG9 : At (Txt.rstrip y) dd ((j : Int) + 1).toNat (d.cps.toList ++ goS y) := .inr ⟨by omega, way_soft hPW (by with_reducible assumption) hC9 hE9⟩)
                   refine' ksw_end (⟨(j : Int) + 1, _, dd, tdd⟩ : Int × Tok × Str × Tok) F9x N9x (fun _ hp => hp) trivial (List.forall_mem_cons.mpr ⟨by with_unfolding_all rfl, List.forall_mem_cons.mpr ⟨by with_unfolding_all rfl, List.forall_mem_nil _⟩⟩) ?_ ⟨?_, hG9⟩ ?_
                   · (intro z9 h29 h39; (simp only [List.forall_mem_cons, List.not_mem_nil, false_implies, implies_true, and_true, ne_eq] at h29); (simp only [List.contains_cons, List.contains_nil, Bool.or_false, Bool.or_eq_false_iff, beq_eq_false_iff_ne, ne_eq] at h39); (simp [kstB, h29, h39]; done))
                   · (try dsimp only); omega
                   · (try dsimp only); omega)
                | ((have hE9 : (j : Int) + 1 = ((Txt.rstrip y).length : Int) := by with_reducible assumption)
                   (have hG9 : At (Txt.rstrip y) (dd ++ Txt.item (Txt.rstrip y) (j : Int) ++ Str.ofString "\n") ((j : Int) + 1).toNat (d.cps.toList ++ goS y) := .inr ⟨by omega, end_gen hE9 (way_emit hPW (by with_reducible assumption) (by with_reducible assumption))⟩)
                   refine' ksw_end (⟨(j : Int) + 1, _, dd ++ Txt.item (Txt.rstrip y) (j : Int) ++ Str.ofString "\n", _⟩ : Int × Tok × Str × Tok) F9x N9x (fun _ hp => hp) trivial (List.forall_mem_cons.mpr ⟨by with_unfolding_all rfl, List.forall_mem_cons.mpr ⟨by with_unfolding_all rfl, List.forall_mem_nil _⟩⟩) ?_ ⟨?_, hG9⟩ ?_
                   · (intro z9 h29 h39; (simp only [List.forall_mem_cons, List.not_mem_nil, false_implies, implies_true, and_true, ne_eq] at h29); (simp only [List.contains_cons, List.contains_nil, Bool.or_false, Bool.or_eq_false_iff, beq_eq_false_iff_ne, ne_eq] at h39); (simp [kstB, h29, h39]; done))
                   · (try dsimp only); omega
                   · (try dsimp only); omega)
                | ((have hE9 : (j : Int) + 1 ≠ ((Txt.rstrip y).length : Int) := by with_reducible assumption)
                   (have hP9 : (dd ++ Txt.item (Txt.rstrip y) (j : Int)).cps.toList ++ lineGo ((Txt.rstrip y).cps.toList.drop (j + 1)) = d.cps.toList ++ goS y := by first | exact way_emit hPW (by with_reducible assumption) (by with_reducible assumption) | exact way_eq3 hPW (by with_reducible assumption) (by with_reducible assumption) hE9 (by with_reducible assumption) | exact way_eq1 hPW (by with_reducible assumption) (by with_reducible assumption) (by with_reducible assumption) (by with_reducible assumption) | exact way_eq2 hPW (by with_reducible assumption) (by with_reducible assumption) (by with_reducible assumption) (by with_reducible assumption))
                   (have hG9 : At (Txt.rstrip y) (dd ++ Txt.item (Txt.rstrip y) (j : Int)) ((j : Int) + 1).toNat (d.cps.toList ++ goS y) := .inl ⟨by omega, by rw [eT1]; exact hP9⟩)
                   refine' ksw_end (⟨(j : Int) + 1, _, dd ++ Txt.item (Txt.rstrip y) (j : Int), _⟩ : Int × Tok × Str × Tok) F9x N9x (fun _ hp => hp) trivial (List.forall_mem_cons.mpr ⟨by with_unfolding_all rfl, List.forall_mem_cons.mpr ⟨by with_unfolding_all rfl, List.forall_mem_nil _⟩⟩) ?_ ⟨?_, hG9⟩ ?_
                   · (intro z9 h29 h39; (simp only [List.forall_mem_cons, List.not_mem_nil, false_implies, implies_true, and_true, ne_eq] at h29); (simp only [List.contains_cons, List.contains_nil, Bool.or_false, Bool.or_eq_false_iff, beq_eq_false_iff_ne, ne_eq] at h39); (simp [kstB, h29, h39]; done))
                   · (try dsimp only); omega
                   · (try dsimp only); omega)))
            | skip)
          · rename_i FU NU _
            obtain ⟨hn9, hv9⟩ := pair_in (L := Txt.rstrip y) (j := j) (by with_reducible assumption) (by with_reducible assumption) (by with_reducible assumption)
            have hG9 := way_oct hPW (by with_reducible assumption) (by with_reducible assumption) (by with_reducible assumption) (by with_reducible assumption) (by with_reducible assumption)
            refine' unquote_ctr w mean mg mb _ _ _ (Nat.le_trans (Txt.slice_le _ _ _) ?_) hn9 ?_ ?_ _ _ _ _ _ _ _ _ _ _ _ _ _ _ _ _ _ _ B' FU X' NU T' rfl ?_ ?_ ?_
            · omega
            · omega
            · omega
            · (try simp only [depth_under_make, depth_under_kw, depth_in1, depth_deeper, depth_caller]); (try dsimp only [ktrTop]); omega
            · (try simp only [units_in1, units_deeper, Around.mark_units, units_caller]); (try dsimp only [ktrTop]); omega
            intro t9 h9 tk9 F9 N9
            rw [Int.toNat_natCast]
            have hL9 : (⟨#[pairVal (Txt.rstrip y) j]⟩ : Str).length = 1 := rfl
            (try dsimp only)
            (try k_fold)
            repeat' ((fail_if_success (with_reducible show wpAny _ _ (PySem.exec (PySem.Stmt.While _ _ _ _) _) _ _ _)); (fail_if_success (with_reducible show wpAny _ _ (PySem.pyIter _) _ _ _)); (fail_if_success (with_reducible show wpAny _ _ (PySem.call (PySem.Value.ref _) _ _) _ _ _)); (fail_if_success (with_reducible show InvEndN _ _ _ _ _ _ _)); (fail_if_success (with_reducible show KswEnd _ _ _ _ _ _ _ _ _ _ _ _)); (first | (k_unfold; (try dsimp only)) | (k_end; wrow_close) | walk1 | (dsimp only; walk1) | (leave1; try dsimp only) | fail "no step"))
            · rename_i FV NV
              have hE9 : (j : Int) + 3 = ((Txt.rstrip y).length : Int) := by with_reducible assumption
              have hA9 : At (Txt.rstrip y) (dd ++ (⟨#[pairVal (Txt.rstrip y) j]⟩ : Str) ++ Str.ofString "\n") ((j : Int) + 3).toNat (d.cps.toList ++ goS y) := .inr ⟨by omega, end_oct hE9 hG9⟩
              refine' ksw_end (⟨(j : Int) + 3, _, dd ++ (⟨#[pairVal (Txt.rstrip y) j]⟩ : Str) ++ Str.ofString "\n", _⟩ : Int × Tok × Str × Tok) FV NV (fun _ hp => hp) trivial (List.forall_mem_cons.mpr ⟨by with_unfolding_all rfl, List.forall_mem_cons.mpr ⟨by with_unfolding_all rfl, List.forall_mem_nil _⟩⟩) ?_ ⟨?_, hA9⟩ ?_
              · (intro z9 h29 h39; (simp only [List.forall_mem_cons, List.not_mem_nil, false_implies, implies_true, and_true, ne_eq] at h29); (simp only [List.contains_cons, List.contains_nil, Bool.or_false, Bool.or_eq_false_iff, beq_eq_false_iff_ne, ne_eq] at h39); (simp [kstB, h29, h39]; done))
              · (try dsimp only); omega
              · (try dsimp only); omega
            · rename_i FV NV hE9
              have hA9 : At (Txt.rstrip y) (dd ++ (⟨#[pairVal (Txt.rstrip y) j]⟩ : Str)) ((j : Int) + 3).toNat (d.cps.toList ++ goS y) := .inl ⟨by omega, by rw [eT3]; exact hG9⟩
              refine' ksw_end (⟨(j : Int) + 3, _, dd ++ (⟨#[pairVal (Txt.rstrip y) j]⟩ : Str), _⟩ : Int × Tok × Str × Tok) FV NV (fun _ hp => hp) trivial (List.forall_mem_cons.mpr ⟨by with_unfolding_all rfl, List.forall_mem_cons.mpr ⟨by with_unfolding_all rfl, List.forall_mem_nil _⟩⟩) ?_ ⟨?_, hA9⟩ ?_
              · (intro z9 h29 h39; (simp only [List.forall_mem_cons, List.not_mem_nil, false_implies, implies_true, and_true, ne_eq] at h29); (simp only [List.contains_cons, List.contains_nil, Bool.or_false, Bool.or_eq_false_iff, beq_eq_false_iff_ne, ne_eq] at h39); (simp [kstB, h29, h39]; done))
              · (try dsimp only); omega
              · (try dsimp only); omega
          · rename_i hov
            refine' kv_end (dd, tdd) FW2 NW2 (fun p hp => List.mem_append_left _ hp) (fun p hp => List.mem_append_right _ hp) rfl (List.forall_mem_cons.mpr ⟨by with_unfolding_all rfl, List.forall_mem_nil _⟩) ?_ ?_
            · (intro z9 h19 h29 h39; (simp only [List.forall_mem_cons, List.not_mem_nil, false_implies, implies_true, and_true, ne_eq] at h29); (simp only [List.contains_cons, List.contains_nil, Bool.or_false, Bool.or_eq_false_iff, beq_eq_false_iff_ne, ne_eq] at h39); (simp [kstB, h19, h29, h39]; done))
            · show dd.cps.toList = _
              rw [hPW.over hov, take_go e1 hy, hP']
      · rename_i FV NV
        refine' kv_end (d ++ Str.ofString "\n", _) FV NV (fun p hp => List.mem_append_left _ hp) (fun p hp => List.mem_append_right _ hp) rfl (List.forall_mem_cons.mpr ⟨by with_unfolding_all rfl, List.forall_mem_nil _⟩) ?_ ?_
        · (intro z9 h19 h29 h39; (simp only [List.forall_mem_cons, List.not_mem_nil, false_implies, implies_true, and_true, ne_eq] at h29); (simp only [List.contains_cons, List.contains_nil, Bool.or_false, Bool.or_eq_false_iff, beq_eq_false_iff_ne, ne_eq] at h39); (simp [kstB, h19, h29, h39]; done))
        · show (d ++ Str.ofString "\n").cps.toList = _
          rw [take_go e1 hy]
          exact way_empty hP' (by with_reducible assumption)
    case done =>
      rintro ⟨d, td⟩ u hD tkD hP FD ND
      have hP' : d.cps.toList = (Txt.lines x).flatMap goS := by
        have q1 : (strValues ls).length = (Txt.lines x).length := by rw [← e1, StrsAre.len_eq e2]
        have q2 : d.cps.toList = ((Txt.lines x).take (strValues ls).length).flatMap goS := hP
        rw [q1, List.take_length] at q2
        exact q2
      have hdl : d.length ≤ 2000 := by
        have q1 := goS_all (Txt.lines x)
        have q2 : d.cps.toList.length = d.length := Array.length_toList
        rw [hP'] at q2
        omega
      (try dsimp only at FD)
      (try k_fold)
      repeat' ((fail_if_success (with_reducible show wpAny _ _ (PySem.exec (PySem.Stmt.While _ _ _ _) _) _ _ _)); (fail_if_success (with_reducible show wpAny _ _ (PySem.pyIter _) _ _ _)); (fail_if_success (with_reducible show wpAny _ _ (PySem.call (PySem.Value.ref _) _ _) _ _ _)); (fail_if_success (with_reducible show InvEndN _ _ _ _ _ _ _)); (fail_if_success (with_reducible show KswEnd _ _ _ _ _ _ _ _ _ _ _ _)); (first | (k_unfold; (try dsimp only)) | (k_end; wrow_close) | walk1 | (dsimp only; walk1) | (leave1; try dsimp only) | fail "no step"))
      · exact ret_str hret (dec_cut hne hP' (by with_reducible assumption) (by with_reducible assumption)) (by k_asm) (by k_asm)
      · exact ret_str hret (dec_keep1 hne hP' (by with_reducible assumption)) (by k_asm) (by k_asm)
      · exact ret_str hret (dec_keep2 hne hP' (by with_reducible assumption)) (by k_asm) (by k_asm)
  · exact ret_str hret (dec_empty (by with_reducible assumption)) (by k_asm) (by k_asm)
end Mine
end PartD
section PartE
open PySem PySem.W PyProof.Rows PySem.Spec PySem.Calls
set_option maxRecDepth 100000
set_option maxHeartbeats 8000000
set_option linter.unusedSimpArgs false
namespace Mine
theorem um_ctr (w : World) (mean : ExcName → Option Value) (mg mb : Str → Option Value) (x : Str) (t : Tok) (i lim : Nat) (mo tp : Addr) (hx : x.length ≤ 1000) (hi3 : i + 3 ≤ x.length) (hb1 : isHex (x.cps.toList.getD (i + 1) 0) = true) (hb2 : isHex (x.cps.toList.getD (i + 2) 0) = true) :
  ∀ (news : List (Addr × Obj)) (dp un : Nat) (gd : Option (List Code)) (cn : Str) (cs : Scope) (a : Addr) (ccd : Value) (cl : List (Str × Addr)) (outer : List Env) (A₀ : Around) (base h₀ : Heap) (L : Addr) (m : Str → Option Value) (s : Shared) (Q E : Value → Shared → Prop),
    Below A₀ base outer h₀ → Fr h₀ L s.heap m → (hd.heap_39 w.params).In h₀ → News h₀ L s.heap news → Top hd.view_39 TheLoose mean mg mb h₀ → cs.kind = .function → (mo, matchObj x t lim tp) ∈ news → (tp, spanObj i (i + 3)) ∈ news →
    dp + 8 < recursionLimit → un + 80 < cLine → CbRet h₀ L m news s Q (fun t => .str ⟨#[pairVal x i]⟩ t) →
      wpAny (model TheProg w) (ktrTop dp un gd cn cs L a ccd cl outer) (call (.ref 58) [.ref mo]) Q E s := by
  unfold TheProg
  k_fill
  intro news dp un gd cn cs a ccd cl outer A₀ base h₀ L m s Q E B F X N T hk hm1 hm2 hd hu hret
  dsimp only [CbRet] at hret
  refine wpAny_call ?_
  k_dflt (refine' code_def ?k1 ?k2 ?k3 ?k4 ?k5 ?kA ?kF ?kK ?k6 ?k7 ?k8 ?k9 ?kB ?_ ?c2 ?c3 ?c4 ?c5; (case kA => exact rfl); (case kF => exact rfl); (case kK => assumption); (case k1 => k_asm); (case k2 => k_asm); (case k3 => k_asm); (case k4 => k_asm); (case k5 => k_asm); (case k6 => k_is); (case k7 => k_is); (case k8 => ktr_room); (case k9 => first | exact BindsTo.of_eq rfl | exact binds_K (by k_in) rfl (by k_is) rfl rfl rfl); (case c5 => decide); (case kB => exact locs rfl); (case c2 => exact rfl); (case c3 => exact rfl); (case c4 => exact rfl); k_whole; intro g' L' h' FG' F' N' B' X' T'; (try dsimp only); (try k_lift B'); (try k_fold))
  repeat' ((fail_if_success (with_reducible show wpAny _ _ (PySem.exec (PySem.Stmt.While _ _ _ _) _) _ _ _)); (fail_if_success (with_reducible show wpAny _ _ (PySem.pyIter _) _ _ _)); (fail_if_success (with_reducible show wpAny _ _ (PySem.call (PySem.Value.ref _) _ _) _ _ _)); (fail_if_success (with_reducible show InvEndN _ _ _ _ _ _ _)); (fail_if_success (with_reducible show KswEnd _ _ _ _ _ _ _ _ _ _ _ _)); (first | (k_unfold; (try dsimp only)) | (k_end; wrow_close) | walk1 | (dsimp only; walk1) | (leave1; try dsimp only) | fail "no step"))
  refine get_group N' hm1 ?_
  repeat' ((fail_if_success (with_reducible show wpAny _ _ (PySem.exec (PySem.Stmt.While _ _ _ _) _) _ _ _)); (fail_if_success (with_reducible show wpAny _ _ (PySem.pyIter _) _ _ _)); (fail_if_success (with_reducible show wpAny _ _ (PySem.call (PySem.Value.ref _) _ _) _ _ _)); (fail_if_success (with_reducible show InvEndN _ _ _ _ _ _ _)); (fail_if_success (with_reducible show KswEnd _ _ _ _ _ _ _ _ _ _ _ _)); (first | (k_unfold; (try dsimp only)) | (k_end; wrow_close) | walk1 | (dsimp only; walk1) | (leave1; try dsimp only) | fail "no step"))
  refine call_group N' hm1 hm2 hx fun t9 tk9 => ?_
  (try dsimp only)
  (try k_fold)
  repeat' ((fail_if_success (with_reducible show wpAny _ _ (PySem.exec (PySem.Stmt.While _ _ _ _) _) _ _ _)); (fail_if_success (with_reducible show wpAny _ _ (PySem.pyIter _) _ _ _)); (fail_if_success (with_reducible show wpAny _ _ (PySem.call (PySem.Value.ref _) _ _) _ _ _)); (fail_if_success (with_reducible show InvEndN _ _ _ _ _ _ _)); (fail_if_success (with_reducible show KswEnd _ _ _ _ _ _ _ _ _ _ _ _)); (first | (k_unfold; (try dsimp only)) | (k_end; wrow_close) | walk1 | (dsimp only; walk1) | (leave1; try dsimp only) | fail "no step"))
  rename_i FV NV
  obtain ⟨hn9, hv9⟩ := ext_slice hi3 hb1 hb2
  refine' unquote_ctr w mean mg mb _ _ _ ?_ hn9 ?_ ?_ _ _ _ _ _ _ _ _ _ _ _ _ _ _ _ _ _ _ B' FV X' NV T' rfl ?_ ?_ ?_
  · show (x.cps.extract i (i + 3)).size ≤ 1000
    have : x.cps.size ≤ 1000 := hx
    rw [Array.size_extract]
    omega
  · omega
  · omega
  · ((try simp only [depth_under_make, depth_under_kw, depth_in1, depth_deeper, depth_caller]); (try dsimp only [ktrTop]); omega)
  · ((try simp only [units_in1, units_deeper, Around.mark_units, units_caller]); (try dsimp only [ktrTop]); omega)
  intro t8 h8 tk8 F8 N8
  rw [Int.toNat_natCast]
  (try dsimp only)
  (try k_fold)
  repeat' ((fail_if_success (with_reducible show wpAny _ _ (PySem.exec (PySem.Stmt.While _ _ _ _) _) _ _ _)); (fail_if_success (with_reducible show wpAny _ _ (PySem.pyIter _) _ _ _)); (fail_if_success (with_reducible show wpAny _ _ (PySem.call (PySem.Value.ref _) _ _) _ _ _)); (fail_if_success (with_reducible show InvEndN _ _ _ _ _ _ _)); (fail_if_success (with_reducible show KswEnd _ _ _ _ _ _ _ _ _ _ _ _)); (first | (k_unfold; (try dsimp only)) | (k_end; wrow_close) | walk1 | (dsimp only; walk1) | (leave1; try dsimp only) | fail "no step"))
  all_goals exact hret _ _ _ (by k_asm) (by k_asm)

theorem header_ctr (w : World) (mean : ExcName → Option Value) (mg mb : Str → Option Value) (x : Str) (t : Tok) (hx : x.length ≤ 1000) : 
    Ctr 20 200 w mean mg mb 65 [.str x t] (fun t => .str (hdrS x) t) := by
  unfold Ctr TheProg
  k_fill
  intro news dp un gd cn cs a ccd cl outer A₀ base h₀ L m s Q E B F X N T hk hd hu hret
  dsimp only [CbRet] at hret
  refine wpAny_call ?_
  k_dflt (refine' code_def ?k1 ?k2 ?k3 ?k4 ?k5 ?kA ?kF ?kK ?k6 ?k7 ?k8 ?k9 ?kB ?_ ?c2 ?c3 ?c4 ?c5; (case kA => exact rfl); (case kF => exact rfl); (case kK => assumption); (case k1 => k_asm); (case k2 => k_asm); (case k3 => k_asm); (case k4 => k_asm); (case k5 => k_asm); (case k6 => k_is); (case k7 => k_is); (case k8 => ktr_room); (case k9 => first | exact BindsTo.of_eq rfl | exact binds_K (by k_in) rfl (by k_is) rfl rfl rfl); (case c5 => decide); (case kB => exact locs rfl); (case c2 => exact rfl); (case c3 => exact rfl); (case c4 => exact rfl); k_whole; intro g' L' h' FG' F' N' B' X' T'; (try dsimp only); (try k_lift B'); (try k_fold))
  have h36 : g'.get? 36 = some (patObj 285 317 (Str.ofString "=[a-fA-F0-9]{2}")) := X' _ _ (by k_is)
  have h35 : g'.get? 35 = some codeObj := X' _ _ (by k_is)
  have h58 : ∃ o, g'.get? 58 = some o ∧ o.cls = .type "function" := ⟨_, X' 58 _ (by k_is), rfl⟩
  refine wpAny_execs_cons ?_
  repeat' ((fail_if_success (with_reducible show wpAny _ _ (PySem.exec (PySem.Stmt.While _ _ _ _) _) _ _ _)); (fail_if_success (with_reducible show wpAny _ _ (PySem.pyIter _) _ _ _)); (fail_if_success (with_reducible show wpAny _ _ (PySem.call (PySem.Value.ref _) _ _) _ _ _)); (fail_if_success (with_reducible show InvEndN _ _ _ _ _ _ _)); (fail_if_success (with_reducible show KswEnd _ _ _ _ _ _ _ _ _ _ _ _)); (first | (k_unfold; (try dsimp only)) | (k_end; wrow_close) | walk1 | (dsimp only; walk1) | (leave1; try dsimp only) | fail "no step"))
  refine get_sub h36 (by k_asm) ?_
  repeat' ((fail_if_success (with_reducible show wpAny _ _ (PySem.exec (PySem.Stmt.While _ _ _ _) _) _ _ _)); (fail_if_success (with_reducible show wpAny _ _ (PySem.pyIter _) _ _ _)); (fail_if_success (with_reducible show wpAny _ _ (PySem.call (PySem.Value.ref _) _ _) _ _ _)); (fail_if_success (with_reducible show InvEndN _ _ _ _ _ _ _)); (fail_if_success (with_reducible show KswEnd _ _ _ _ _ _ _ _ _ _ _ _)); (first | (k_unfold; (try dsimp only)) | (k_end; wrow_close) | walk1 | (dsimp only; walk1) | (leave1; try dsimp only) | fail "no step"))
  rename_i FV NV
  refine call_sub h36 h35 h58 (by rw [replace_len]; exact hx) ?_ FV NV ?_
  · intro i s1 news' mo tp Q1 E1 hmi F1 N1 m1 m2 hret1
    obtain ⟨hi3, hb1, hb2, -⟩ := hdec_match _ i hmi
    refine' um_ctr w mean mg mb _ _ i _ mo tp (by rw [replace_len]; exact hx) hi3 hb1 hb2 _ _ _ _ _ _ _ _ _ _ _ _ _ _ _ _ _ _ B' F1 X' N1 T' rfl m1 m2 ?_ ?_ hret1
    · ((try simp only [depth_under_make, depth_under_kw, depth_in1, depth_deeper, depth_caller]); (try dsimp only [ktrTop]); omega)
    · ((try simp only [units_in1, units_deeper, Around.mark_units, units_caller]); (try dsimp only [ktrTop]); omega)
  intro t9 h9 tk9 F9 N9
  (try dsimp only)
  (try k_fold)
  repeat' ((fail_if_success (with_reducible show wpAny _ _ (PySem.exec (PySem.Stmt.While _ _ _ _) _) _ _ _)); (fail_if_success (with_reducible show wpAny _ _ (PySem.pyIter _) _ _ _)); (fail_if_success (with_reducible show wpAny _ _ (PySem.call (PySem.Value.ref _) _ _) _ _ _)); (fail_if_success (with_reducible show InvEndN _ _ _ _ _ _ _)); (fail_if_success (with_reducible show KswEnd _ _ _ _ _ _ _ _ _ _ _ _)); (first | (k_unfold; (try dsimp only)) | (k_end; wrow_close) | walk1 | (dsimp only; walk1) | (leave1; try dsimp only) | fail "no step"))
  all_goals exact ret_str hret (hdr_eq x) (by k_asm) (by k_asm)
end Mine
end PartE
section PartA1
open PySem PySem.W PyProof.Rows PySem.Spec PySem.Calls
set_option maxRecDepth 100000
set_option maxHeartbeats 8000000
set_option linter.unusedSimpArgs false
namespace Mine
local macro_rules | `(tactic| walk_at "call builtin:ord") => `(tactic| (refine PySem.P.ord_of_char ?_; (try dsimp only)))
local macro_rules | `(tactic| walk_at "compareOp In int ref") => `(tactic| ((with_reducible show wpAny _ _ (compareOp CmpOp.In (Value.int _ _) (Value.ref _)) _ _ _); refine in_tuple_ints (by with_unfolding_all exact Fr.tup (by k_asm) (tupK (by k_asm) (by k_is))) (by repeat constructor) ?_))
theorem white_ctr (w : World) (mean : ExcName → Option Value) (mg mb : Str → Option Value) (y : Str) (t : Tok) (c : Nat) (hy : y.cps.toList = [c]) :
    Ctr 5 50 w mean mg mb 81 [.str y t] (fun _ => .bool (whiteB c)) := by
  obtain rfl := one_sign hy
  unfold Ctr TheProg
  k_fill
  intro news dp un gd cn cs a ccd cl outer A₀ base h₀ L m s Q E B F X N T hk hd hu hret
  dsimp only [CbRet] at hret
  refine wpAny_call ?_
  k_dflt (refine' code_def ?k1 ?k2 ?k3 ?k4 ?k5 ?kA ?kF ?kK ?k6 ?k7 ?k8 ?k9 ?kB ?_ ?c2 ?c3 ?c4 ?c5; (case kA => exact rfl); (case kF => exact rfl); (case kK => assumption); (case k1 => k_asm); (case k2 => k_asm); (case k3 => k_asm); (case k4 => k_asm); (case k5 => k_asm); (case k6 => k_is); (case k7 => k_is); (case k8 => ktr_room); (case k9 => first | exact BindsTo.of_eq rfl | exact binds_K (by k_in) rfl (by k_is) rfl rfl rfl); (case c5 => decide); (case kB => exact locs rfl); (case c2 => exact rfl); (case c3 => exact rfl); (case c4 => exact rfl); k_whole; intro g' L' h' FG' F' N' B' X' T'; (try dsimp only); (try k_lift B'); (try k_fold))
  repeat' ((fail_if_success (with_reducible show wpAny _ _ (PySem.exec (PySem.Stmt.While _ _ _ _) _) _ _ _)); (fail_if_success (with_reducible show wpAny _ _ (PySem.pyIter _) _ _ _)); (fail_if_success (with_reducible show wpAny _ _ (PySem.call (PySem.Value.ref _) _ _) _ _ _)); (fail_if_success (with_reducible show InvEndN _ _ _ _ _ _ _)); (fail_if_success (with_reducible show KswEnd _ _ _ _ _ _ _ _ _ _ _ _)); (first | (k_unfold; (try dsimp only)) | (k_end; wrow_close) | walk1 | (dsimp only; walk1) | (leave1; try dsimp only) | fail "no step"))
  all_goals (try dsimp only)
  all_goals (try k_fold)
  all_goals refine ret_bool hret ?_ (by k_asm) (by k_asm)
  all_goals (rw [Bool.eq_iff_iff]; unfold whiteB; simp only [decide_eq_true_eq, beq_iff_eq, Bool.or_eq_true, Bool.and_eq_true, List.any_cons, List.any_nil, Bool.or_false]; omega)
theorem loose_ctr (w : World) (mean : ExcName → Option Value) (mg mb : Str → Option Value) (y : Str) (t : Tok) (c : Nat) (hy : y.cps.toList = [c]) :
    Ctr 10 100 w mean mg mb 88 [.str y t] (fun _ => .bool (looseB c)) := by
  obtain rfl := one_sign hy
  unfold Ctr TheProg
  k_fill
  intro news dp un gd cn cs a ccd cl outer A₀ base h₀ L m s Q E B F X N T hk hd hu hret
  dsimp only [CbRet] at hret
  refine wpAny_call ?_
  k_dflt (refine' code_def ?k1 ?k2 ?k3 ?k4 ?k5 ?kA ?kF ?kK ?k6 ?k7 ?k8 ?k9 ?kB ?_ ?c2 ?c3 ?c4 ?c5; (case kA => exact rfl); (case kF => exact rfl); (case kK => assumption); (case k1 => k_asm); (case k2 => k_asm); (case k3 => k_asm); (case k4 => k_asm); (case k5 => k_asm); (case k6 => k_is); (case k7 => k_is); (case k8 => ktr_room); (case k9 => first | exact BindsTo.of_eq rfl | exact binds_K (by k_in) rfl (by k_is) rfl rfl rfl); (case c5 => decide); (case kB => exact locs rfl); (case c2 => exact rfl); (case c3 => exact rfl); (case c4 => exact rfl); k_whole; intro g' L' h' FG' F' N' B' X' T'; (try dsimp only); (try k_lift B'); (try k_fold))
  repeat' ((fail_if_success (with_reducible show wpAny _ _ (PySem.exec (PySem.Stmt.While _ _ _ _) _) _ _ _)); (fail_if_success (with_reducible show wpAny _ _ (PySem.pyIter _) _ _ _)); (fail_if_success (with_reducible show wpAny _ _ (PySem.call (PySem.Value.ref _) _ _) _ _ _)); (fail_if_success (with_reducible show InvEndN _ _ _ _ _ _ _)); (fail_if_success (with_reducible show KswEnd _ _ _ _ _ _ _ _ _ _ _ _)); (first | (k_unfold; (try dsimp only)) | (k_end; wrow_close) | walk1 | (dsimp only; walk1) | (leave1; try dsimp only) | fail "no step"))
  all_goals (try dsimp only)
  all_goals (try k_fold)
  · have e1 : (({ cps := #[c] } : Str) == Str.ofString "=") = true := by with_reducible assumption
    refine ret_bool hret ?_ (by k_asm) (by k_asm)
    rw [s_eq hy] at e1 ⊢
    unfold looseB
    rw [e1]
    rfl
  · (rename Fr _ _ _ _ => FV); (rename News _ _ _ _ => NV)
    have e1 : (({ cps := #[c] } : Str) == Str.ofString "=") = false := by with_reducible assumption
    have e2 : (({ cps := #[c] } : Str) != Str.ofString "\n") = true := by with_reducible assumption
    have e3 : (Builtin.Str.occurrences (Str.ofString "\r\x0b\x0c\x1c\x1d\x1e\u0085") { cps := #[c] } 0 (Str.ofString "\r\x0b\x0c\x1c\x1d\x1e\u0085").length 1).isEmpty = true := by with_reducible assumption
    refine' white_ctr w mean mg mb _ _ c hy _ _ _ _ _ _ _ _ _ _ _ _ _ _ _ _ _ _ B' FV X' NV T' rfl ?_ ?_ ?_
    · ((try simp only [depth_under_make, depth_under_kw, depth_in1, depth_deeper, depth_caller]); (try dsimp only [ktrTop]); omega)
    · ((try simp only [units_in1, units_deeper, Around.mark_units, units_caller]); (try dsimp only [ktrTop]); omega)
    intro t9 h9 tk9 F9 N9
    (try dsimp only)
    (try k_fold)
    repeat' ((fail_if_success (with_reducible show wpAny _ _ (PySem.exec (PySem.Stmt.While _ _ _ _) _) _ _ _)); (fail_if_success (with_reducible show wpAny _ _ (PySem.pyIter _) _ _ _)); (fail_if_success (with_reducible show wpAny _ _ (PySem.call (PySem.Value.ref _) _ _) _ _ _)); (fail_if_success (with_reducible show InvEndN _ _ _ _ _ _ _)); (fail_if_success (with_reducible show KswEnd _ _ _ _ _ _ _ _ _ _ _ _)); (first | (k_unfold; (try dsimp only)) | (k_end; wrow_close) | walk1 | (dsimp only; walk1) | (leave1; try dsimp only) | fail "no step"))
    all_goals (try dsimp only)
    all_goals (try k_fold)
    all_goals refine ret_bool hret ?_ (by k_asm) (by k_asm)
    all_goals (rw [s_eq hy] at e1; rw [s_nnl hy] at e2; rw [s_end hy] at e3; unfold looseB; rw [e1, e2]; simp at e3; rw [e3]; simp)
  · have e1 : (({ cps := #[c] } : Str) == Str.ofString "=") = false := by with_reducible assumption
    have e2 : (({ cps := #[c] } : Str) != Str.ofString "\n") = true := by with_reducible assumption
    have e3 : (Builtin.Str.occurrences (Str.ofString "\r\x0b\x0c\x1c\x1d\x1e\u0085") { cps := #[c] } 0 (Str.ofString "\r\x0b\x0c\x1c\x1d\x1e\u0085").length 1).isEmpty = false := by with_reducible assumption
    refine ret_bool hret ?_ (by k_asm) (by k_asm)
    rw [s_eq hy] at e1; rw [s_nnl hy] at e2; rw [s_end hy] at e3 ⊢; unfold looseB; rw [e1, e2]; simp at e3; rw [e3]; simp
  · have e1 : (({ cps := #[c] } : Str) == Str.ofString "=") = false := by with_reducible assumption
    have e2 : (({ cps := #[c] } : Str) != Str.ofString "\n") = false := by with_reducible assumption
    refine ret_bool hret ?_ (by k_asm) (by k_asm)
    rw [s_eq hy] at e1; rw [s_nnl hy] at e2 ⊢; unfold looseB; rw [e1, e2]; rfl
theorem far_ctr (w : World) (mean : ExcName → Option Value) (mg mb : Str → Option Value) (x : Str) (t : Tok) (hx : x.length ≤ 1000) :
    Ctr 10 100 w mean mg mb 95 [.str x t] (fun _ => .bool (farL x.cps.toList)) := by
  unfold Ctr TheProg
  k_fill
  intro news dp un gd cn cs a ccd cl outer A₀ base h₀ L m s Q E B F X N T hk hd hu hret
  dsimp only [CbRet] at hret
  refine wpAny_call ?_
  k_dflt (refine' code_def ?k1 ?k2 ?k3 ?k4 ?k5 ?kA ?kF ?kK ?k6 ?k7 ?k8 ?k9 ?kB ?_ ?c2 ?c3 ?c4 ?c5; (case kA => exact rfl); (case kF => exact rfl); (case kK => assumption); (case k1 => k_asm); (case k2 => k_asm); (case k3 => k_asm); (case k4 => k_asm); (case k5 => k_asm); (case k6 => k_is); (case k7 => k_is); (case k8 => ktr_room); (case k9 => first | exact BindsTo.of_eq rfl | exact binds_K (by k_in) rfl (by k_is) rfl rfl rfl); (case c5 => decide); (case kB => exact locs rfl); (case c2 => exact rfl); (case c3 => exact rfl); (case c4 => exact rfl); k_whole; intro g' L' h' FG' F' N' B' X' T'; (try dsimp only); (try k_lift B'); (try k_fold))
  repeat' ((fail_if_success (with_reducible show wpAny _ _ (PySem.exec (PySem.Stmt.While _ _ _ _) _) _ _ _)); (fail_if_success (with_reducible show wpAny _ _ (PySem.pyIter _) _ _ _)); (fail_if_success (with_reducible show wpAny _ _ (PySem.call (PySem.Value.ref _) _ _) _ _ _)); (fail_if_success (with_reducible show InvEndN _ _ _ _ _ _ _)); (fail_if_success (with_reducible show KswEnd _ _ _ _ _ _ _ _ _ _ _ _)); (first | (k_unfold; (try dsimp only)) | (k_end; wrow_close) | walk1 | (dsimp only; walk1) | (leave1; try dsimp only) | fail "no step"))
  all_goals (try dsimp only)
  all_goals (try k_fold)
  · (rename Fr _ _ _ _ => FV); (rename News _ _ _ _ => NV)
    have e1 : (x != Str.ofString "") = true := by with_reducible assumption
    have e2 : (255 : Int) < ((Txt.item x (-1)).cps.getD 0 0 : Nat) := by with_reducible assumption
    rw [s_full, decide_eq_true_eq] at e1
    obtain ⟨c, hc1, hc2⟩ := last_item (x := x) (by omega)
    refine' white_ctr w mean mg mb _ _ c hc2 _ _ _ _ _ _ _ _ _ _ _ _ _ _ _ _ _ _ B' FV X' NV T' rfl ?_ ?_ ?_
    · ((try simp only [depth_under_make, depth_under_kw, depth_in1, depth_deeper, depth_caller]); (try dsimp only [ktrTop]); omega)
    · ((try simp only [units_in1, units_deeper, Around.mark_units, units_caller]); (try dsimp only [ktrTop]); omega)
    intro t9 h9 tk9 F9 N9
    (try dsimp only)
    (try k_fold)
    repeat' ((fail_if_success (with_reducible show wpAny _ _ (PySem.exec (PySem.Stmt.While _ _ _ _) _) _ _ _)); (fail_if_success (with_reducible show wpAny _ _ (PySem.pyIter _) _ _ _)); (fail_if_success (with_reducible show wpAny _ _ (PySem.call (PySem.Value.ref _) _ _) _ _ _)); (fail_if_success (with_reducible show InvEndN _ _ _ _ _ _ _)); (fail_if_success (with_reducible show KswEnd _ _ _ _ _ _ _ _ _ _ _ _)); (first | (k_unfold; (try dsimp only)) | (k_end; wrow_close) | walk1 | (dsimp only; walk1) | (leave1; try dsimp only) | fail "no step"))
    all_goals (try dsimp only)
    all_goals (try k_fold)
    all_goals refine ret_bool hret ?_ (by k_asm) (by k_asm)
    rw [one_sign hc2] at e2
    have e2 : (255 : Int) < (c : Nat) := e2
    unfold farL
    rw [hc1]
    simp only
    rw [decide_eq_true (by omega : 255 < c), Bool.true_and]
  · have e1 : (x != Str.ofString "") = true := by with_reducible assumption
    have e2 : ¬ (255 : Int) < ((Txt.item x (-1)).cps.getD 0 0 : Nat) := by with_reducible assumption
    rw [s_full, decide_eq_true_eq] at e1
    obtain ⟨c, hc1, hc2⟩ := last_item (x := x) (by omega)
    refine ret_bool hret ?_ (by k_asm) (by k_asm)
    rw [one_sign hc2] at e2 ⊢
    have e2 : ¬ (255 : Int) < (c : Nat) := e2
    show decide ((255 : Int) < (c : Nat)) = _
    unfold farL
    rw [hc1]
    simp only
    rw [decide_eq_false (by omega : ¬ 255 < c), decide_eq_false e2, Bool.false_and]
  · have e1 : (x != Str.ofString "") = false := by with_reducible assumption
    refine ret_bool hret ?_ (by k_asm) (by k_asm)
    rw [e1]
    rw [s_full, decide_eq_false_iff_not] at e1
    have hl := cps_length x
    have e : x.cps.toList = [] := List.length_eq_zero_iff.mp (by omega)
    unfold farL
    rw [e]
    rfl
theorem esc_ctr (w : World) (mean : ExcName → Option Value) (mg mb : Str → Option Value) (x : Str) (t : Tok) (k : Int) (tk : Tok) (hx : x.length ≤ 1000) (h0 : 0 ≤ k) (h1 : k < x.length) :
    Ctr 10 100 w mean mg mb 102 [.str x t, .int k tk] (fun _ => .bool (escL x.cps.toList k.toNat)) := by
  have hl := cps_length x
  have eT1 : (k + 1).toNat = k.toNat + 1 := by omega
  have eT2 : (k + 2).toNat = k.toNat + 2 := by omega
  have hI := item_at h0 h1
  unfold Ctr TheProg
  k_fill
  intro news dp un gd cn cs a ccd cl outer A₀ base h₀ L m s Q E B F X N T hk hd hu hret
  dsimp only [CbRet] at hret
  refine wpAny_call ?_
  k_dflt (refine' code_def ?k1 ?k2 ?k3 ?k4 ?k5 ?kA ?kF ?kK ?k6 ?k7 ?k8 ?k9 ?kB ?_ ?c2 ?c3 ?c4 ?c5; (case kA => exact rfl); (case kF => exact rfl); (case kK => assumption); (case k1 => k_asm); (case k2 => k_asm); (case k3 => k_asm); (case k4 => k_asm); (case k5 => k_asm); (case k6 => k_is); (case k7 => k_is); (case k8 => ktr_room); (case k9 => first | exact BindsTo.of_eq rfl | exact binds_K (by k_in) rfl (by k_is) rfl rfl rfl); (case c5 => decide); (case kB => exact locs rfl); (case c2 => exact rfl); (case c3 => exact rfl); (case c4 => exact rfl); k_whole; intro g' L' h' FG' F' N' B' X' T'; (try dsimp only); (try k_lift B'); (try k_fold))
  repeat' ((fail_if_success (with_reducible show wpAny _ _ (PySem.exec (PySem.Stmt.While _ _ _ _) _) _ _ _)); (fail_if_success (with_reducible show wpAny _ _ (PySem.pyIter _) _ _ _)); (fail_if_success (with_reducible show wpAny _ _ (PySem.call (PySem.Value.ref _) _ _) _ _ _)); (fail_if_success (with_reducible show InvEndN _ _ _ _ _ _ _)); (fail_if_success (with_reducible show KswEnd _ _ _ _ _ _ _ _ _ _ _ _)); (first | (k_unfold; (try dsimp only)) | (k_end; wrow_close) | walk1 | (dsimp only; walk1) | (leave1; try dsimp only) | fail "no step"))
  all_goals (try dsimp only)
  all_goals (try k_fold)
  · have e1 : (Txt.item x k == Str.ofString "=") = true := by with_reducible assumption
    have e2 : (Txt.slice x (some (k + 1)) (some (k + 2)) != Str.ofString "") = true := by with_reducible assumption
    rw [slice_one (by omega) (by omega), decide_eq_true_eq] at e2
    have hI1 := item_at (x := x) (k := k + 1) (by omega) e2
    repeat' ((fail_if_success (with_reducible show wpAny _ _ (PySem.exec (PySem.Stmt.While _ _ _ _) _) _ _ _)); (fail_if_success (with_reducible show wpAny _ _ (PySem.pyIter _) _ _ _)); (fail_if_success (with_reducible show wpAny _ _ (PySem.call (PySem.Value.ref _) _ _) _ _ _)); (fail_if_success (with_reducible show InvEndN _ _ _ _ _ _ _)); (fail_if_success (with_reducible show KswEnd _ _ _ _ _ _ _ _ _ _ _ _)); (first | (k_unfold; (try dsimp only)) | (k_end; wrow_close) | walk1 | (dsimp only; walk1) | (leave1; try dsimp only) | fail "no step"))
    all_goals (try dsimp only)
    all_goals (try k_fold)
    · have e3 : (Builtin.Str.occurrences (Str.ofString "0123456789ABCDEFabcdef") (Txt.item x (k + 1)) 0 (Str.ofString "0123456789ABCDEFabcdef").length 1).isEmpty = true := by with_reducible assumption
      refine ret_bool hret ?_ (by k_asm) (by k_asm)
      rw [e3]
      rw [s_hex hI1, eT1] at e3
      unfold escL
      rw [Bool.not_eq_true'] at e3
      rw [e3]
      simp
    · have e3 : (Builtin.Str.occurrences (Str.ofString "0123456789ABCDEFabcdef") (Txt.item x (k + 1)) 0 (Str.ofString "0123456789ABCDEFabcdef").length 1).isEmpty = false := by with_reducible assumption
      have e4 : (Txt.slice x (some (k + 2)) (some (k + 3)) != Str.ofString "") = true := by with_reducible assumption
      rw [slice_one (by omega) (by omega), decide_eq_true_eq] at e4
      have hI2 := item_at (x := x) (k := k + 2) (by omega) e4
      repeat' ((fail_if_success (with_reducible show wpAny _ _ (PySem.exec (PySem.Stmt.While _ _ _ _) _) _ _ _)); (fail_if_success (with_reducible show wpAny _ _ (PySem.pyIter _) _ _ _)); (fail_if_success (with_reducible show wpAny _ _ (PySem.call (PySem.Value.ref _) _ _) _ _ _)); (fail_if_success (with_reducible show InvEndN _ _ _ _ _ _ _)); (fail_if_success (with_reducible show KswEnd _ _ _ _ _ _ _ _ _ _ _ _)); (first | (k_unfold; (try dsimp only)) | (k_end; wrow_close) | walk1 | (dsimp only; walk1) | (leave1; try dsimp only) | fail "no step"))
      all_goals (try dsimp only)
      all_goals (try k_fold)
      all_goals refine ret_bool hret ?_ (by k_asm) (by k_asm)
      rw [s_eq hI] at e1
      rw [s_hex hI1, eT1] at e3
      rw [s_hex hI2, eT2]
      unfold escL
      rw [Bool.not_eq_false'] at e3
      rw [e1, e3]
      simp
    · have e3 : (Builtin.Str.occurrences (Str.ofString "0123456789ABCDEFabcdef") (Txt.item x (k + 1)) 0 (Str.ofString "0123456789ABCDEFabcdef").length 1).isEmpty = false := by with_reducible assumption
      have e4 : (Txt.slice x (some (k + 2)) (some (k + 3)) != Str.ofString "") = false := by with_reducible assumption
      refine ret_bool hret ?_ (by k_asm) (by k_asm)
      rw [e4]
      rw [slice_one (by omega) (by omega), decide_eq_false_iff_not] at e4
      unfold escL
      have e5 : x.cps.toList.getD (k.toNat + 2) 0 = 0 := by rw [List.getD_eq_getElem?_getD, List.getElem?_eq_none (by omega)]; rfl
      rw [e5]
      simp [isHex]
  · have e1 : (Txt.item x k == Str.ofString "=") = true := by with_reducible assumption
    have e2 : (Txt.slice x (some (k + 1)) (some (k + 2)) != Str.ofString "") = false := by with_reducible assumption
    refine ret_bool hret ?_ (by k_asm) (by k_asm)
    rw [e2]
    rw [slice_one (by omega) (by omega), decide_eq_false_iff_not] at e2
    unfold escL
    have e3 : x.cps.toList.getD (k.toNat + 1) 0 = 0 := by rw [List.getD_eq_getElem?_getD, List.getElem?_eq_none (by omega)]; rfl
    rw [e3]
    simp [isHex]
  · have e1 : (Txt.item x k == Str.ofString "=") = false := by with_reducible assumption
    refine ret_bool hret ?_ (by k_asm) (by k_asm)
    rw [e1]
    rw [s_eq hI] at e1
    unfold escL
    rw [e1]
    rfl
theorem oct_ctr (w : World) (mean : ExcName → Option Value) (mg mb : Str → Option Value) (y : Str) (t : Tok) (c : Nat) (hy : y.cps.toList = [c]) (hc : c < 256) :
    Ctr 10 100 w mean mg mb 109 [.str y t] (fun t => .str ⟨#[61, fig (c / 16), fig (c % 16)]⟩ t) := by
  obtain rfl := one_sign hy
  unfold Ctr TheProg
  k_fill
  intro news dp un gd cn cs a ccd cl outer A₀ base h₀ L m s Q E B F X N T hk hd hu hret
  dsimp only [CbRet] at hret
  refine wpAny_call ?_
  k_dflt (refine' code_def ?k1 ?k2 ?k3 ?k4 ?k5 ?kA ?kF ?kK ?k6 ?k7 ?k8 ?k9 ?kB ?_ ?c2 ?c3 ?c4 ?c5; (case kA => exact rfl); (case kF => exact rfl); (case kK => assumption); (case k1 => k_asm); (case k2 => k_asm); (case k3 => k_asm); (case k4 => k_asm); (case k5 => k_asm); (case k6 => k_is); (case k7 => k_is); (case k8 => ktr_room); (case k9 => first | exact BindsTo.of_eq rfl | exact binds_K (by k_in) rfl (by k_is) rfl rfl rfl); (case c5 => decide); (case kB => exact locs rfl); (case c2 => exact rfl); (case c3 => exact rfl); (case c4 => exact rfl); k_whole; intro g' L' h' FG' F' N' B' X' T'; (try dsimp only); (try k_lift B'); (try k_fold))
  repeat' ((fail_if_success (with_reducible show wpAny _ _ (PySem.exec (PySem.Stmt.While _ _ _ _) _) _ _ _)); (fail_if_success (with_reducible show wpAny _ _ (PySem.pyIter _) _ _ _)); (fail_if_success (with_reducible show wpAny _ _ (PySem.call (PySem.Value.ref _) _ _) _ _ _)); (fail_if_success (with_reducible show InvEndN _ _ _ _ _ _ _)); (fail_if_success (with_reducible show KswEnd _ _ _ _ _ _ _ _ _ _ _ _)); (first | (k_unfold; (try dsimp only)) | (k_end; wrow_close) | walk1 | (dsimp only; walk1) | (leave1; try dsimp only) | fail "no step"))
  all_goals (try dsimp only)
  all_goals (try k_fold)
  all_goals exact ret_str hret (figs c hc) (by k_asm) (by k_asm)
end Mine
end PartA1
section PartA2
open PySem PySem.W PyProof.Rows PySem.Spec PySem.Calls
set_option maxRecDepth 100000
set_option maxHeartbeats 8000000
set_option linter.unusedSimpArgs false
namespace Mine
local macro_rules | `(tactic| walk_at "call builtin:ord") => `(tactic| (refine ord_of_one ?_ ?_; (first | rfl | omega); (try dsimp only)))
theorem spell_ctr (w : World) (mean : ExcName → Option Value) (mg mb : Str → Option Value) (x : Str) (t : Tok) (hx : x.length ≤ 200) :
    Ctr 30 200 w mean mg mb 116 [.str x t] (fun t => .str (spellS x) t) := by
  unfold Ctr TheProg
  k_fill
  intro news dp un gd cn cs a ccd cl outer A₀ base h₀ L m s Q E B F X N T hk hd hu hret
  dsimp only [CbRet] at hret
  refine wpAny_call ?_
  k_dflt (refine' code_def ?k1 ?k2 ?k3 ?k4 ?k5 ?kA ?kF ?kK ?k6 ?k7 ?k8 ?k9 ?kB ?_ ?c2 ?c3 ?c4 ?c5; (case kA => exact rfl); (case kF => exact rfl); (case kK => assumption); (case k1 => k_asm); (case k2 => k_asm); (case k3 => k_asm); (case k4 => k_asm); (case k5 => k_asm); (case k6 => k_is); (case k7 => k_is); (case k8 => ktr_room); (case k9 => first | exact BindsTo.of_eq rfl | exact binds_K (by k_in) rfl (by k_is) rfl rfl rfl); (case c5 => decide); (case kB => exact locs rfl); (case c2 => exact rfl); (case c3 => exact rfl); (case c4 => exact rfl); k_whole; intro g' L' h' FG' F' N' B' X' T'; (try dsimp only); (try k_lift B'); (try k_fold))
  repeat' ((fail_if_success (with_reducible show wpAny _ _ (PySem.exec (PySem.Stmt.While _ _ _ _) _) _ _ _)); (fail_if_success (with_reducible show wpAny _ _ (PySem.pyIter _) _ _ _)); (fail_if_success (with_reducible show wpAny _ _ (PySem.call (PySem.Value.ref _) _ _) _ _ _)); (fail_if_success (with_reducible show InvEndN _ _ _ _ _ _ _)); (fail_if_success (with_reducible show KswEnd _ _ _ _ _ _ _ _ _ _ _ _)); (first | (k_unfold; (try dsimp only)) | (k_end; wrow_close) | walk1 | (dsimp only; walk1) | (leave1; try dsimp only) | fail "no step"))
  (rename Fr _ _ _ _ => lF); (rename News _ _ _ _ => lN); (rename IsRange _ _ _ _ _ _ _ _ => rgX)
  refine' kst_range (fun _ => news) (fun c => [(Str.ofString "spelling", .str c.1 c.2)]) (fun _ => True) [Str.ofString "sign", Str.ofString "last"] (fun pre (c : Str × Tok) => c.1.cps.toList = spellTo x.cps.toList pre.length) (⟨Str.ofString "", ?stk⟩ : Str × Tok) rfl rgX (small_one (by omega) (by omega) (by omega) (by omega)) (rangeSize_nat _ _) lF lN trivial ?kk rfl ?turn ?done
  case kk => exact (List.forall_mem_cons.mpr ⟨by with_unfolding_all rfl, List.forall_mem_nil _⟩)
  case turn =>
    rintro ⟨d, td⟩ pre k tk0 u hT tkT own hk0 hpn hoff - hP FT NT
    obtain rfl : k = (pre.length : Int) := by omega
    have h0 : (0 : Int) ≤ (pre.length : Int) := by omega
    have h1 : (pre.length : Int) < (x.length : Int) := by omega
    have hP : d.cps.toList = spellTo x.cps.toList pre.length := hP
    have hdl : d.length ≤ 700 := by
      have q1 := spellTo_len x.cps.toList pre.length
      rw [← hP, cps_length] at q1
      omega
    (try dsimp only at FT)
    (try k_fold)
    repeat' (first | ((with_reducible show wpAny _ _ (PySem.call (PySem.Value.ref 88) [PySem.Value.str _ _]) _ _ _); (rename Fr _ _ _ _ => FZ); (rename News _ _ _ _ => NZ); refine' loose_ctr w mean mg mb _ _ _ (by exact item_at (by omega) (by omega)) _ _ _ _ _ _ _ _ _ _ _ _ _ _ _ _ _ _ B' FZ X' NZ T' rfl (by ((try simp only [depth_under_make, depth_under_kw, depth_in1, depth_deeper, depth_caller]); (try dsimp only [ktrTop]); omega)) (by ((try simp only [units_in1, units_deeper, Around.mark_units, units_caller]); (try dsimp only [ktrTop]); omega)) ?_; intro _ _ _ _ _; (try dsimp only); (try k_fold)) | ((with_reducible show wpAny _ _ (PySem.call (PySem.Value.ref 102) [PySem.Value.str _ _, PySem.Value.int _ _]) _ _ _); (rename Fr _ _ _ _ => FZ); (rename News _ _ _ _ => NZ); refine' esc_ctr w mean mg mb _ _ _ _ (by omega) (by omega) (by omega) _ _ _ _ _ _ _ _ _ _ _ _ _ _ _ _ _ _ B' FZ X' NZ T' rfl (by ((try simp only [depth_under_make, depth_under_kw, depth_in1, depth_deeper, depth_caller]); (try dsimp only [ktrTop]); omega)) (by ((try simp only [units_in1, units_deeper, Around.mark_units, units_caller]); (try dsimp only [ktrTop]); omega)) ?_; intro _ _ _ _ _; (try dsimp only); (try k_fold)) | ((with_reducible show wpAny _ _ (PySem.call (PySem.Value.ref 109) [PySem.Value.str _ _]) _ _ _); (rename Fr _ _ _ _ => FZ); (rename News _ _ _ _ => NZ); refine' oct_ctr w mean mg mb _ _ _ (by exact item_at (by omega) (by omega)) (by rw [Int.toNat_natCast]; exact price_lt (by (first | exact Or.inl (p_esc (by with_reducible assumption)) | exact Or.inl (p_und h1 (by with_reducible assumption)) | exact Or.inl (p_end h1 (by with_reducible assumption)) | exact Or.inr (l_yes h1 (by with_reducible assumption) (by with_reducible assumption) (by with_reducible assumption))))) _ _ _ _ _ _ _ _ _ _ _ _ _ _ _ _ _ _ B' FZ X' NZ T' rfl (by ((try simp only [depth_under_make, depth_under_kw, depth_in1, depth_deeper, depth_caller]); (try dsimp only [ktrTop]); omega)) (by ((try simp only [units_in1, units_deeper, Around.mark_units, units_caller]); (try dsimp only [ktrTop]); omega)) ?_; intro _ _ _ _ _; (try dsimp only); (try k_fold)) | ((fail_if_success (with_reducible show wpAny _ _ (PySem.exec (PySem.Stmt.While _ _ _ _) _) _ _ _)); (fail_if_success (with_reducible show wpAny _ _ (PySem.pyIter _) _ _ _)); (fail_if_success (with_reducible show wpAny _ _ (PySem.call (PySem.Value.ref _) _ _) _ _ _)); (fail_if_success (with_reducible show InvEndN _ _ _ _ _ _ _)); (fail_if_success (with_reducible show KswEnd _ _ _ _ _ _ _ _ _ _ _ _)); (first | (k_unfold; (try dsimp only)) | (k_end; wrow_close) | walk1 | (dsimp only; walk1) | (leave1; try dsimp only) | fail "no step")))
    all_goals (
      (rename Fr _ _ _ _ => F9x); (rename News _ _ _ _ => N9x)
      first
      | ((have hG9 := sp_oct (x := x) (n := (pre ++ [(pre.length : Int)]).length) hP (by (first | exact Or.inl (p_esc (by with_reducible assumption)) | exact Or.inl (p_und h1 (by with_reducible assumption)) | exact Or.inl (p_end h1 (by with_reducible assumption)) | exact Or.inr (l_yes h1 (by with_reducible assumption) (by with_reducible assumption) (by with_reducible assumption)))) (by simp))
         refine' kst_end (⟨_, _⟩ : Str × Tok) F9x N9x (fun p hp => List.mem_append_left _ hp) (fun p hp => List.mem_append_right _ hp) rfl trivial (List.forall_mem_cons.mpr ⟨by with_unfolding_all rfl, List.forall_mem_nil _⟩) ?_ hG9
         (intro z9 h19 h29 h39; (simp only [List.forall_mem_cons, List.not_mem_nil, false_implies, implies_true, and_true, ne_eq] at h29); (simp only [List.contains_cons, List.contains_nil, Bool.or_false, Bool.or_eq_false_iff, beq_eq_false_iff_ne, ne_eq] at h39); (simp [kstB, h19, h29, h39]; done)))
      | ((have hG9 := sp_soft (x := x) (n := (pre ++ [(pre.length : Int)]).length) hP (by exact p_no h1 (by with_reducible assumption) (by with_reducible assumption) (by with_reducible assumption)) (by first | exact l_no1 (by with_reducible assumption) | exact l_no2 (by with_reducible assumption) | exact l_no3 h1 (by with_reducible assumption)) (by exact s_yes h1 (by with_reducible assumption) (by with_reducible assumption) (by with_reducible assumption)) (by simp))
         refine' kst_end (⟨_, _⟩ : Str × Tok) F9x N9x (fun p hp => List.mem_append_left _ hp) (fun p hp => List.mem_append_right _ hp) rfl trivial (List.forall_mem_cons.mpr ⟨by with_unfolding_all rfl, List.forall_mem_nil _⟩) ?_ hG9
         (intro z9 h19 h29 h39; (simp only [List.forall_mem_cons, List.not_mem_nil, false_implies, implies_true, and_true, ne_eq] at h29); (simp only [List.contains_cons, List.contains_nil, Bool.or_false, Bool.or_eq_false_iff, beq_eq_false_iff_ne, ne_eq] at h39); (simp [kstB, h19, h29, h39]; done)))
      | ((have hG9 := sp_keep (x := x) (n := (pre ++ [(pre.length : Int)]).length) h1 hP (by exact p_no h1 (by with_reducible assumption) (by with_reducible assumption) (by with_reducible assumption)) (by first | exact l_no1 (by with_reducible assumption) | exact l_no2 (by with_reducible assumption) | exact l_no3 h1 (by with_reducible assumption)) (by first | exact s_no1 h1 (by with_reducible assumption) | exact s_no2 (by with_reducible assumption) | exact s_no3 (by with_reducible assumption)) (by simp))
         refine' kst_end (⟨_, _⟩ : Str × Tok) F9x N9x (fun p hp => List.mem_append_left _ hp) (fun p hp => List.mem_append_right _ hp) rfl trivial (List.forall_mem_cons.mpr ⟨by with_unfolding_all rfl, List.forall_mem_nil _⟩) ?_ hG9
         (intro z9 h19 h29 h39; (simp only [List.forall_mem_cons, List.not_mem_nil, false_implies, implies_true, and_true, ne_eq] at h29); (simp only [List.contains_cons, List.contains_nil, Bool.or_false, Bool.or_eq_false_iff, beq_eq_false_iff_ne, ne_eq] at h39); (simp [kstB, h19, h29, h39]; done)))
      | (exfalso; omega))
  case done =>
    rintro ⟨d, td⟩ u hD tkD - hP FD ND
    have hP : d.cps.toList = spellTo x.cps.toList (rangeKs 0 (((x.length : Int) - 0).toNat)).length := hP
    have hl := cps_length x
    rw [rangeKs_length] at hP
    (try dsimp only at FD)
    (try k_fold)
    repeat' ((fail_if_success (with_reducible show wpAny _ _ (PySem.exec (PySem.Stmt.While _ _ _ _) _) _ _ _)); (fail_if_success (with_reducible show wpAny _ _ (PySem.pyIter _) _ _ _)); (fail_if_success (with_reducible show wpAny _ _ (PySem.call (PySem.Value.ref _) _ _) _ _ _)); (fail_if_success (with_reducible show InvEndN _ _ _ _ _ _ _)); (fail_if_success (with_reducible show KswEnd _ _ _ _ _ _ _ _ _ _ _ _)); (first | (k_unfold; (try dsimp only)) | (k_end; wrow_close) | walk1 | (dsimp only; walk1) | (leave1; try dsimp only) | fail "no step"))
    refine ret_str hret (str_ext ?_) (by k_asm) (by k_asm)
    rw [hP, spellS_cps]
    unfold spellL
    rw [hl]
    congr 1
theorem count_ctr (w : World) (mean : ExcName → Option Value) (mg mb : Str → Option Value) (x : Str) (t : Tok) (hx : x.length ≤ 200) :
    Ctr 30 200 w mean mg mb 123 [.str x t] (fun t => .int (countL x.cps.toList : Nat) t) := by
  unfold Ctr TheProg
  k_fill
  intro news dp un gd cn cs a ccd cl outer A₀ base h₀ L m s Q E B F X N T hk hd hu hret
  dsimp only [CbRet] at hret
  refine wpAny_call ?_
  k_dflt (refine' code_def ?k1 ?k2 ?k3 ?k4 ?k5 ?kA ?kF ?kK ?k6 ?k7 ?k8 ?k9 ?kB ?_ ?c2 ?c3 ?c4 ?c5; (case kA => exact rfl); (case kF => exact rfl); (case kK => assumption); (case k1 => k_asm); (case k2 => k_asm); (case k3 => k_asm); (case k4 => k_asm); (case k5 => k_asm); (case k6 => k_is); (case k7 => k_is); (case k8 => ktr_room); (case k9 => first | exact BindsTo.of_eq rfl | exact binds_K (by k_in) rfl (by k_is) rfl rfl rfl); (case c5 => decide); (case kB => exact locs rfl); (case c2 => exact rfl); (case c3 => exact rfl); (case c4 => exact rfl); k_whole; intro g' L' h' FG' F' N' B' X' T'; (try dsimp only); (try k_lift B'); (try k_fold))
  repeat' ((fail_if_success (with_reducible show wpAny _ _ (PySem.exec (PySem.Stmt.While _ _ _ _) _) _ _ _)); (fail_if_success (with_reducible show wpAny _ _ (PySem.pyIter _) _ _ _)); (fail_if_success (with_reducible show wpAny _ _ (PySem.call (PySem.Value.ref _) _ _) _ _ _)); (fail_if_success (with_reducible show InvEndN _ _ _ _ _ _ _)); (fail_if_success (with_reducible show KswEnd _ _ _ _ _ _ _ _ _ _ _ _)); (first | (k_unfold; (try dsimp only)) | (k_end; wrow_close) | walk1 | (dsimp only; walk1) | (leave1; try dsimp only) | fail "no step"))
  (rename Fr _ _ _ _ => lF); (rename News _ _ _ _ => lN); (rename IsRange _ _ _ _ _ _ _ _ => rgX)
  refine' kst_range (fun _ => news) (fun c => [(Str.ofString "price", .int c.1 c.2)]) (fun _ => True) [] (fun pre (c : Int × Tok) => c.1 = (x.length : Int) + (costTo x.cps.toList pre.length : Nat)) (⟨(x.length : Int), ?stk⟩ : Int × Tok) rfl rgX (small_one (by omega) (by omega) (by omega) (by omega)) (rangeSize_nat _ _) lF lN trivial ?kk (by simp [costTo]) ?turn ?done
  case kk => exact (List.forall_mem_cons.mpr ⟨by with_unfolding_all rfl, List.forall_mem_nil _⟩)
  case turn =>
    rintro ⟨d, td⟩ pre k tk0 u hT tkT own hk0 hpn hoff - hP FT NT
    obtain rfl : k = (pre.length : Int) := by omega
    have h0 : (0 : Int) ≤ (pre.length : Int) := by omega
    have h1 : (pre.length : Int) < (x.length : Int) := by omega
    have hP : d = (x.length : Int) + (costTo x.cps.toList pre.length : Nat) := hP
    have hdl := costTo_le x.cps.toList pre.length
    (try dsimp only at FT)
    (try k_fold)
    repeat' (first | ((with_reducible show wpAny _ _ (PySem.call (PySem.Value.ref 88) [PySem.Value.str _ _]) _ _ _); (rename Fr _ _ _ _ => FZ); (rename News _ _ _ _ => NZ); refine' loose_ctr w mean mg mb _ _ _ (by exact item_at (by omega) (by omega)) _ _ _ _ _ _ _ _ _ _ _ _ _ _ _ _ _ _ B' FZ X' NZ T' rfl (by ((try simp only [depth_under_make, depth_under_kw, depth_in1, depth_deeper, depth_caller]); (try dsimp only [ktrTop]); omega)) (by ((try simp only [units_in1, units_deeper, Around.mark_units, units_caller]); (try dsimp only [ktrTop]); omega)) ?_; intro _ _ _ _ _; (try dsimp only); (try k_fold)) | ((with_reducible show wpAny _ _ (PySem.call (PySem.Value.ref 102) [PySem.Value.str _ _, PySem.Value.int _ _]) _ _ _); (rename Fr _ _ _ _ => FZ); (rename News _ _ _ _ => NZ); refine' esc_ctr w mean mg mb _ _ _ _ (by omega) (by omega) (by omega) _ _ _ _ _ _ _ _ _ _ _ _ _ _ _ _ _ _ B' FZ X' NZ T' rfl (by ((try simp only [depth_under_make, depth_under_kw, depth_in1, depth_deeper, depth_caller]); (try dsimp only [ktrTop]); omega)) (by ((try simp only [units_in1, units_deeper, Around.mark_units, units_caller]); (try dsimp only [ktrTop]); omega)) ?_; intro _ _ _ _ _; (try dsimp only); (try k_fold)) | ((with_reducible show wpAny _ _ (PySem.call (PySem.Value.ref 109) [PySem.Value.str _ _]) _ _ _); (rename Fr _ _ _ _ => FZ); (rename News _ _ _ _ => NZ); refine' oct_ctr w mean mg mb _ _ _ (by exact item_at (by omega) (by omega)) (by rw [Int.toNat_natCast]; exact price_lt (by (first | exact Or.inl (p_esc (by with_reducible assumption)) | exact Or.inl (p_und h1 (by with_reducible assumption)) | exact Or.inl (p_end h1 (by with_reducible assumption)) | exact Or.inr (l_yes h1 (by with_reducible assumption) (by with_reducible assumption) (by with_reducible assumption))))) _ _ _ _ _ _ _ _ _ _ _ _ _ _ _ _ _ _ B' FZ X' NZ T' rfl (by ((try simp only [depth_under_make, depth_under_kw, depth_in1, depth_deeper, depth_caller]); (try dsimp only [ktrTop]); omega)) (by ((try simp only [units_in1, units_deeper, Around.mark_units, units_caller]); (try dsimp only [ktrTop]); omega)) ?_; intro _ _ _ _ _; (try dsimp only); (try k_fold)) | ((fail_if_success (with_reducible show wpAny _ _ (PySem.exec (PySem.Stmt.While _ _ _ _) _) _ _ _)); (fail_if_success (with_reducible show wpAny _ _ (PySem.pyIter _) _ _ _)); (fail_if_success (with_reducible show wpAny _ _ (PySem.call (PySem.Value.ref _) _ _) _ _ _)); (fail_if_success (with_reducible show InvEndN _ _ _ _ _ _ _)); (fail_if_success (with_reducible show KswEnd _ _ _ _ _ _ _ _ _ _ _ _)); (first | (k_unfold; (try dsimp only)) | (k_end; wrow_close) | walk1 | (dsimp only; walk1) | (leave1; try dsimp only) | fail "no step")))
    all_goals (
      (rename Fr _ _ _ _ => F9x); (rename News _ _ _ _ => N9x)
      first
      | ((have hG9 := co_two (n := (pre ++ [(pre.length : Int)]).length) hP (by (first | exact Or.inl (p_esc (by with_reducible assumption)) | exact Or.inl (p_und h1 (by with_reducible assumption)) | exact Or.inl (p_end h1 (by with_reducible assumption)) | exact Or.inr (s_yes h1 (by with_reducible assumption) (by with_reducible assumption) (by with_reducible assumption)))) (by simp))
         refine' kst_end (⟨_, _⟩ : Int × Tok) F9x N9x (fun p hp => List.mem_append_left _ hp) (fun p hp => List.mem_append_right _ hp) rfl trivial (List.forall_mem_cons.mpr ⟨by with_unfolding_all rfl, List.forall_mem_nil _⟩) ?_ hG9
         (intro z9 h19 h29 h39; (simp only [List.forall_mem_cons, List.not_mem_nil, false_implies, implies_true, and_true, ne_eq] at h29); (simp only [List.contains_cons, List.contains_nil, Bool.or_false, Bool.or_eq_false_iff, beq_eq_false_iff_ne, ne_eq] at h39); (simp [kstB, h19, h29, h39]; done)))
      | ((have hG9 := co_keep (n := (pre ++ [(pre.length : Int)]).length) hP (by exact p_no h1 (by with_reducible assumption) (by with_reducible assumption) (by with_reducible assumption)) (by first | exact s_no1 h1 (by with_reducible assumption) | exact s_no2 (by with_reducible assumption) | exact s_no3 (by with_reducible assumption)) (by simp))
         refine' kst_end (⟨_, _⟩ : Int × Tok) F9x N9x (fun p hp => List.mem_append_left _ hp) (fun p hp => List.mem_append_right _ hp) rfl trivial (List.forall_mem_cons.mpr ⟨by with_unfolding_all rfl, List.forall_mem_nil _⟩) ?_ hG9
         (intro z9 h19 h29 h39; (simp only [List.forall_mem_cons, List.not_mem_nil, false_implies, implies_true, and_true, ne_eq] at h29); (simp only [List.contains_cons, List.contains_nil, Bool.or_false, Bool.or_eq_false_iff, beq_eq_false_iff_ne, ne_eq] at h39); (simp [kstB, h19, h29, h39]; done)))
      | (exfalso; omega))
  case done =>
    rintro ⟨d, td⟩ u hD tkD - hP FD ND
    have hP : d = (x.length : Int) + (costTo x.cps.toList (rangeKs 0 (((x.length : Int) - 0).toNat)).length : Nat) := hP
    have hl := cps_length x
    have hdl := costTo_le x.cps.toList x.length
    rw [rangeKs_length] at hP
    (try dsimp only at FD)
    (try k_fold)
    repeat' ((fail_if_success (with_reducible show wpAny _ _ (PySem.exec (PySem.Stmt.While _ _ _ _) _) _ _ _)); (fail_if_success (with_reducible show wpAny _ _ (PySem.pyIter _) _ _ _)); (fail_if_success (with_reducible show wpAny _ _ (PySem.call (PySem.Value.ref _) _ _) _ _ _)); (fail_if_success (with_reducible show InvEndN _ _ _ _ _ _ _)); (fail_if_success (with_reducible show KswEnd _ _ _ _ _ _ _ _ _ _ _ _)); (first | (k_unfold; (try dsimp only)) | (k_end; wrow_close) | walk1 | (dsimp only; walk1) | (leave1; try dsimp only) | fail "no step"))
    · have e1 : (x != Str.ofString "") = true := by with_reducible assumption
      rw [s_full, decide_eq_true_eq] at e1
      obtain ⟨c, hc1, hc2⟩ := last_item (x := x) (by omega)
      (rename Fr _ _ _ _ => FZ); (rename News _ _ _ _ => NZ)
      refine' loose_ctr w mean mg mb _ _ c hc2 _ _ _ _ _ _ _ _ _ _ _ _ _ _ _ _ _ _ B' FZ X' NZ T' rfl ?_ ?_ ?_
      · ((try simp only [depth_under_make, depth_under_kw, depth_in1, depth_deeper, depth_caller]); (try dsimp only [ktrTop]); omega)
      · ((try simp only [units_in1, units_deeper, Around.mark_units, units_caller]); (try dsimp only [ktrTop]); omega)
      intro t9 h9 tk9 F9 N9
      (try dsimp only)
      (try k_fold)
      repeat' ((fail_if_success (with_reducible show wpAny _ _ (PySem.exec (PySem.Stmt.While _ _ _ _) _) _ _ _)); (fail_if_success (with_reducible show wpAny _ _ (PySem.pyIter _) _ _ _)); (fail_if_success (with_reducible show wpAny _ _ (PySem.call (PySem.Value.ref _) _ _) _ _ _)); (fail_if_success (with_reducible show InvEndN _ _ _ _ _ _ _)); (fail_if_success (with_reducible show KswEnd _ _ _ _ _ _ _ _ _ _ _ _)); (first | (k_unfold; (try dsimp only)) | (k_end; wrow_close) | walk1 | (dsimp only; walk1) | (leave1; try dsimp only) | fail "no step"))
      · have e2 : looseB c = true := by with_reducible assumption
        refine ret_int hret (co_end1 (x := x) hP hc1 e2) (by k_asm) (by k_asm)
      · have e2 : looseB c = false := by with_reducible assumption
        refine ret_int hret (co_end2 (x := x) hP hc1 e2) (by k_asm) (by k_asm)
    · have e1 : (x != Str.ofString "") = false := by with_reducible assumption
      refine ret_int hret (co_end3 (x := x) hP e1) (by k_asm) (by k_asm)
end Mine
end PartA2
section PartA3
open PySem PySem.W PyProof.Rows PySem.Spec PySem.Calls
set_option maxRecDepth 100000
set_option maxHeartbeats 8000000
set_option linter.unusedSimpArgs false
namespace Mine
theorem piece_at {prog : Program} {w : World} {A : Around} {E : Value → Shared → Prop} {s : Shared} {value slice : Expr} {l : Addr} {vs : List Value} {ws : List Str} {i : Int} {u : Tok} {Q : Value → Shared → Prop} (ht : IsTup s.heap l vs.toArray) (hw : StrsAre vs ws) (h0 : 0 ≤ i) (h1 : i < (ws.length : Int)) (hfit : i < 2 ^ 63)
    (hg : ∀ j : Nat, (ws.getD j Str.empty).length ≤ 3 ∧ Good (ws.getD j Str.empty).cps.toList) (h : ∀ y t', y.length ≤ 3 → Good y.cps.toList → Q (.str y t') s)
    (hs : subscripted slice false (.ref l) (.int i u) = operate [.ref l, .int i u] (getItem (.ref l) (.int i u)) := by with_unfolding_all rfl) :
    wpAny (model prog w) A (subscriptTail value slice (.ref l) (.int i u)) Q E s :=
  KTb.item_tup ht hw h0 h1 hfit (fun t' _ => h _ _ (hg _).1 (hg _).2) hs
local macro_rules | `(tactic| walk_at "subscriptTail") => `(tactic| ((with_reducible show wpAny _ _ (subscriptTail _ _ (Value.ref _) (Value.int _ _)) _ _ _); with_unfolding_all (refine' piece_at (ws := [Str.ofString "=", Str.ofString "3", Str.ofString "=3D", Str.ofString "D", Str.ofString "_", Str.ofString " ", Str.ofString "\t", Str.ofString "\n", Str.ofString "\r", Str.ofString "\x0b", Str.ofString "\u3000", Str.ofString "\u00a0", Str.ofString "=20", Str.ofString "\x1f", Str.ofString "\u2003", Str.ofString "4"]) ?pt1 ?pt2 ?pt3 ?pt4 ?pt5 piece_ok ?_; (case pt1 => with_unfolding_all exact Fr.tup (by k_asm) (tupK (by k_asm) (by k_is))); (case pt2 => (repeat constructor)); (case pt3 => exact Int.fmod_nonneg_of_pos _ (by decide)); (case pt4 => (show Int.fmod _ _ < (16 : Int); with_reducible assumption)); (case pt5 => (refine Int.lt_trans ?_ (by decide : (16 : Int) < 2 ^ 63); with_reducible assumption)); (intro y9 t9 hy9 hg9; (try dsimp only); (try k_fold)))))
theorem chr_at {prog : Program} {w : World} {A : Around} {E : Value → Shared → Prop} {s : Shared} {i : Int} {t : Tok} {Q : Value → Shared → Prop} (h : Q (.str (⟨#[(Int.fmod i 55296).toNat]⟩ : Str) s.toks) { s with toks := s.toks + 1 }) :
    wpAny (model prog w) A (call (.builtin "chr") [.int (Int.fmod i 55296) t]) Q E s :=
  chr_of_range (Int.fmod_nonneg_of_pos _ (by decide)) (Int.le_trans (Int.le_of_lt (Int.fmod_lt_of_pos _ (by decide))) (by decide)) h
local macro_rules | `(tactic| walk_at "call builtin:chr") => `(tactic| (refine chr_at ?_; (try dsimp only); (try k_fold)))
theorem text_ctr (w : World) (mean : ExcName → Option Value) (mg mb : Str → Option Value) (l : Addr) (vs : List Value) (ns : List Int) (nn : Nat) (hi : IntsAre vs ns) (hn : ns.length ≤ 16) : 
  ∀ (news : List (Addr × Obj)) (dp un : Nat) (gd : Option (List Code)) (cn : Str) (cs : Scope) (a : Addr) (ccd : Value) (cl : List (Str × Addr)) (outer : List Env) (A₀ : Around) (base h₀ : Heap) (L : Addr) (m : Str → Option Value) (s : Shared) (Q E : Value → Shared → Prop),
    Below A₀ base outer h₀ → Fr h₀ L s.heap m → (hd.heap_39 w.params).In h₀ → News h₀ L s.heap news → Top hd.view_39 TheLoose mean mg mb h₀ → cs.kind = .function → (l, listOf vs.toArray nn) ∈ news →
    dp + 20 < recursionLimit → un + 100 < cLine → (∀ (y : Str) (t : Tok) (h' : Heap) (tk' : Nat), y.length ≤ 48 → Good y.cps.toList → Fr h₀ L h' m → News h₀ L h' news → Q (.str y t) { s with heap := h', toks := tk' }) →
      wpAny (model TheProg w) (ktrTop dp un gd cn cs L a ccd cl outer) (call (.ref 74) [.ref l]) Q E s := by
  unfold TheProg
  k_fill
  intro news dp un gd cn cs a ccd cl outer A₀ base h₀ L m s Q E B F X N T hk hm1 hd hu hret
  refine wpAny_call ?_
  k_dflt (refine' code_def ?k1 ?k2 ?k3 ?k4 ?k5 ?kA ?kF ?kK ?k6 ?k7 ?k8 ?k9 ?kB ?_ ?c2 ?c3 ?c4 ?c5; (case kA => exact rfl); (case kF => exact rfl); (case kK => assumption); (case k1 => k_asm); (case k2 => k_asm); (case k3 => k_asm); (case k4 => k_asm); (case k5 => k_asm); (case k6 => k_is); (case k7 => k_is); (case k8 => ktr_room); (case k9 => first | exact BindsTo.of_eq rfl | exact binds_K (by k_in) rfl (by k_is) rfl rfl rfl); (case c5 => decide); (case kB => exact locs rfl); (case c2 => exact rfl); (case c3 => exact rfl); (case c4 => exact rfl); k_whole; intro g' L' h' FG' F' N' B' X' T'; (try dsimp only); (try k_lift B'); (try k_fold))
  repeat' ((fail_if_success (with_reducible show wpAny _ _ (PySem.exec (PySem.Stmt.While _ _ _ _) _) _ _ _)); (fail_if_success (with_reducible show wpAny _ _ (PySem.pyIter _) _ _ _)); (fail_if_success (with_reducible show wpAny _ _ (PySem.call (PySem.Value.ref _) _ _) _ _ _)); (fail_if_success (with_reducible show InvEndN _ _ _ _ _ _ _)); (fail_if_success (with_reducible show KswEnd _ _ _ _ _ _ _ _ _ _ _ _)); (first | (k_unfold; (try dsimp only)) | (k_end; wrow_close) | walk1 | (dsimp only; walk1) | (leave1; try dsimp only) | fail "no step"))
  (rename Fr _ _ _ _ => lF); (rename News _ _ _ _ => lN)
  refine' kst_listL (ns := ns) (fun _ => news) (fun c => [(Str.ofString "text", .str c.1 c.2)]) (fun _ => True) [] (fun pre (c : Str × Tok) => c.1.length ≤ 3 * pre.length ∧ Good c.1.cps.toList) (⟨Str.ofString "", ?stk⟩ : Str × Tok) rfl (fun _ => hm1) (by with_reducible assumption) lF lN trivial ?kk ⟨Nat.le_refl _, fun _ h => nomatch h⟩ ?turn ?done
  case kk => exact (List.forall_mem_cons.mpr ⟨by with_unfolding_all rfl, List.forall_mem_nil _⟩)
  case turn =>
    rintro ⟨d, td⟩ pre post n tk0 u hT tkT own hns hnm hoff - ⟨hP1, hP2⟩ FT NT
    have hP1 : d.length ≤ 3 * pre.length := hP1
    have hP2 : Good d.cps.toList := hP2
    have hdl : d.length ≤ 48 := by
      have := congrArg List.length hns
      rw [List.length_append, List.length_cons] at this
      omega
    (try dsimp only at FT)
    (try k_fold)
    repeat' ((fail_if_success (with_reducible show wpAny _ _ (PySem.exec (PySem.Stmt.While _ _ _ _) _) _ _ _)); (fail_if_success (with_reducible show wpAny _ _ (PySem.pyIter _) _ _ _)); (fail_if_success (with_reducible show wpAny _ _ (PySem.call (PySem.Value.ref _) _ _) _ _ _)); (fail_if_success (with_reducible show InvEndN _ _ _ _ _ _ _)); (fail_if_success (with_reducible show KswEnd _ _ _ _ _ _ _ _ _ _ _ _)); (first | (k_unfold; (try dsimp only)) | (k_end; wrow_close) | (walk1; (all_goals (try dsimp only))) | (dsimp only; walk1) | (leave1; try dsimp only) | fail "no step"))
    all_goals (
      (rename Fr _ _ _ _ => F9x); (rename News _ _ _ _ => N9x))
    all_goals (
      first
      | ((rename (_ : Nat) ≤ 3 => hy9x); (rename Good _ => hg9x)
         (have hG9 := tx_add hP1 hP2 hy9x hg9x (n := (pre ++ [n]).length) (by simp))
         refine' kst_end (⟨_, _⟩ : Str × Tok) F9x N9x (fun p hp => List.mem_append_left _ hp) (fun p hp => List.mem_append_right _ hp) rfl trivial (List.forall_mem_cons.mpr ⟨by with_unfolding_all rfl, List.forall_mem_nil _⟩) ?_ hG9
         (intro z9 h19 h29 h39; (simp only [List.forall_mem_cons, List.not_mem_nil, false_implies, implies_true, and_true, ne_eq] at h29); (simp only [List.contains_cons, List.contains_nil, Bool.or_false, Bool.or_eq_false_iff, beq_eq_false_iff_ne, ne_eq] at h39); (simp [kstB, h19, h29, h39]; done)))
      | ((have hG9 := tx_add (y := Str.ofString ".") hP1 hP2 (by decide +kernel) (by unfold Good; decide +kernel) (n := (pre ++ [n]).length) (by simp))
         refine' kst_end (⟨_, _⟩ : Str × Tok) F9x N9x (fun p hp => List.mem_append_left _ hp) (fun p hp => List.mem_append_right _ hp) rfl trivial (List.forall_mem_cons.mpr ⟨by with_unfolding_all rfl, List.forall_mem_nil _⟩) ?_ hG9
         (intro z9 h19 h29 h39; (simp only [List.forall_mem_cons, List.not_mem_nil, false_implies, implies_true, and_true, ne_eq] at h29); (simp only [List.contains_cons, List.contains_nil, Bool.or_false, Bool.or_eq_false_iff, beq_eq_false_iff_ne, ne_eq] at h39); (simp [kstB, h19, h29, h39]; done)))
      | ((have hG9 := tx_chr (i := n.fdiv 32) hP1 hP2 (by with_reducible assumption) (by with_reducible assumption) (n := (pre ++ [n]).length) (by simp))
         refine' kst_end (⟨_, _⟩ : Str × Tok) F9x N9x (fun p hp => List.mem_append_left _ hp) (fun p hp => List.mem_append_right _ hp) rfl trivial (List.forall_mem_cons.mpr ⟨by with_unfolding_all rfl, List.forall_mem_nil _⟩) ?_ hG9
         (intro z9 h19 h29 h39; (simp only [List.forall_mem_cons, List.not_mem_nil, false_implies, implies_true, and_true, ne_eq] at h29); (simp only [List.contains_cons, List.contains_nil, Bool.or_false, Bool.or_eq_false_iff, beq_eq_false_iff_ne, ne_eq] at h39); (simp [kstB, h19, h29, h39]; done))))
  case done =>
    rintro ⟨d, td⟩ u hD tkD - ⟨hP1, hP2⟩ FD ND
    have hP1 : d.length ≤ 3 * ns.length := hP1
    have hP2 : Good d.cps.toList := hP2
    (try dsimp only at FD)
    (try k_fold)
    repeat' ((fail_if_success (with_reducible show wpAny _ _ (PySem.exec (PySem.Stmt.While _ _ _ _) _) _ _ _)); (fail_if_success (with_reducible show wpAny _ _ (PySem.pyIter _) _ _ _)); (fail_if_success (with_reducible show wpAny _ _ (PySem.call (PySem.Value.ref _) _ _) _ _ _)); (fail_if_success (with_reducible show InvEndN _ _ _ _ _ _ _)); (fail_if_success (with_reducible show KswEnd _ _ _ _ _ _ _ _ _ _ _ _)); (first | (k_unfold; (try dsimp only)) | (k_end; wrow_close) | walk1 | (dsimp only; walk1) | (leave1; try dsimp only) | fail "no step"))
    all_goals exact hret _ _ _ _ (by omega) hP2 (by k_asm) (by k_asm)
end Mine
end PartA3
section PartF1
open PySem PySem.W PyProof.Rows PySem.Spec PySem.Calls PySem.Builtin.Str
set_option maxRecDepth 100000
set_option maxHeartbeats 4000000
namespace Mine
def brk (c : Nat) : Bool := Unicode.isLineBreak c
def spl : List Nat → List Nat → List (List Nat)
  | cur, [] => if cur = [] then [] else [cur]
  | cur, 13 :: 10 :: r => cur :: spl [] r
  | cur, c :: r => if brk c then cur :: spl [] r else spl (cur ++ [c]) r
theorem spl_brk {cur r : List Nat} {c : Nat} (h : brk c = true) (h2 : ¬ (c = 13 ∧ r.head? = some 10)) : spl cur (c :: r) = cur :: spl [] r := by
  rw [spl.eq_3]
  · rw [if_pos h]
  · intro r' e1 e2
    subst e2
    exact h2 ⟨e1, rfl⟩
theorem spl_no {cur r : List Nat} {c : Nat} (h : brk c = false) : spl cur (c :: r) = spl (cur ++ [c]) r := by
  rw [spl.eq_3]
  · rw [h]; simp
  · intro r' e1 e2
    subst e1
    exact absurd h (by decide)
open StrLaws in
theorem spans_run (x : Str) : ∀ (m i : Nat) (A : Array (Nat × Nat × Nat)) (st : Nat), i + m = x.length →
    (st ≤ i → (lsEnd x (Id.run (forIn (m := Id) (List.range' i m) ((A, st) : LsSt) (lsBody x)))).map (fun p => (x.cps.toList.drop p.1).take (p.2.1 - p.1)) = A.toList.map (fun p => (x.cps.toList.drop p.1).take (p.2.1 - p.1)) ++ spl ((x.cps.toList.drop st).take (i - st)) (x.cps.toList.drop i))
    ∧ (st = i + 1 → i < x.length → (lsEnd x (Id.run (forIn (m := Id) (List.range' i m) ((A, st) : LsSt) (lsBody x)))).map (fun p => (x.cps.toList.drop p.1).take (p.2.1 - p.1)) = A.toList.map (fun p => (x.cps.toList.drop p.1).take (p.2.1 - p.1)) ++ spl [] (x.cps.toList.drop (i + 1)))
  | 0, i, A, st, hm => by
    have hl := cps_length x
    refine ⟨fun hst => ?_, fun _ h => absurd h (by omega)⟩
    have hi : i = x.length := by omega
    have hsz : x.cps.size = x.length := rfl
    subst hi
    show (lsEnd x (A, st)).map _ = _
    unfold lsEnd
    rw [List.drop_eq_nil_of_le (i := x.length) (by omega)]
    by_cases hc : st < x.length
    · have hne : (x.cps.toList.drop st).take (x.length - st) ≠ [] := by
        intro e
        have := congrArg List.length e
        simp at this
        omega
      simp only [hc, if_true, Array.toList_push, List.map_append, List.map_cons, List.map_nil]
      unfold spl
      rw [if_neg hne]
    · have hne : (x.cps.toList.drop st).take (x.length - st) = [] := by
        apply List.length_eq_zero_iff.mp
        simp
        omega
      simp only [hc, if_false]
      unfold spl
      rw [if_pos hne, List.append_nil]
  | m + 1, i, A, st, hm => by
    have hl := cps_length x
    have hi : i < x.cps.toList.length := by omega
    have hd : x.cps.toList.drop i = x.cps.toList[i] :: x.cps.toList.drop (i + 1) := List.drop_eq_getElem_cons hi
    have hg : x.cps.getD i 0 = x.cps.toList[i] := by
      have : i < x.cps.size := by have : x.cps.size = x.length := rfl; omega
      rw [Array.getD_eq_getD_getElem?, Array.getElem?_eq_getElem this]
      simp
    have hh : (x.cps.toList.drop (i + 1)).head? = x.cps[i + 1]? := by
      rw [List.head?_drop]
      simp
    rw [List.range'_succ, List.forIn_cons]
    have ih := fun A' st' => spans_run x m (i + 1) A' st' (by omega)
    refine ⟨fun hst => ?_, fun hst _ => ?_⟩
    · unfold lsBody
      by_cases hb : Unicode.isLineBreak (x.cps.getD i 0) = true
      · have hc : (decide (st ≤ i) && Unicode.isLineBreak (x.cps.getD i 0)) = true := by rw [hb, decide_eq_true hst]; rfl
        simp only [hc, if_true]
        rw [hg] at hb
        by_cases hcr : x.cps.toList[i] = 13 ∧ (x.cps.toList.drop (i + 1)).head? = some 10
        · have hn : lsNext x i = i + 2 := by
            unfold lsNext
            rw [hg, ← hh, hcr.1, hcr.2]
            rfl
          have hlt : i + 1 < x.length := by
            have h9 := hcr.2
            rw [List.head?_drop] at h9
            have := (List.getElem?_eq_some_iff.mp h9).1
            omega
          rw [hn]
          refine ((ih (A.push (st, i, i + 2)) (i + 2)).2 rfl hlt).trans ?_
          rw [Array.toList_push, List.map_append, hd, hcr.1]
          have h9 := hcr.2
          rw [List.drop_eq_getElem_cons (i := i + 1) (by omega)] at h9 ⊢
          simp only [List.head?_cons, Option.some.injEq] at h9
          rw [h9, spl.eq_2]
          simp
        · have hn : lsNext x i = i + 1 := by
            unfold lsNext
            rw [hg, ← hh]
            rw [if_neg]
            intro h9
            simp only [Bool.and_eq_true, beq_iff_eq] at h9
            exact hcr h9
          rw [hn]
          refine ((ih (A.push (st, i, i + 1)) (i + 1)).1 (Nat.le_refl _)).trans ?_
          rw [Array.toList_push, List.map_append, hd, spl_brk hb hcr]
          simp
      · have hc : (decide (st ≤ i) && Unicode.isLineBreak (x.cps.getD i 0)) = false := by
          cases h : Unicode.isLineBreak (x.cps.getD i 0)
          · simp
          · exact absurd h hb
        simp only [hc, if_false, Bool.false_eq_true]
        refine ((ih A st).1 (by omega)).trans ?_
        rw [hg] at hb
        rw [hd, spl_no (by cases h : brk x.cps.toList[i]; rfl; exact absurd h hb)]
        congr 2
        have e : i + 1 - st = (i - st) + 1 := by omega
        rw [e, List.take_add_one, List.getElem?_drop]
        have e2 : st + (i - st) = i := by omega
        rw [e2, List.getElem?_eq_getElem hi]
        rfl
    · unfold lsBody
      have hc : (decide (st ≤ i) && Unicode.isLineBreak (x.cps.getD i 0)) = false := by rw [decide_eq_false (by omega)]; rfl
      simp only [hc, if_false, Bool.false_eq_true]
      refine ((ih A st).1 (by omega)).trans ?_
      subst hst
      simp
open StrLaws in
theorem lines_spl (x : Str) : (Txt.lines x).map (·.cps.toList) = spl [] x.cps.toList := by
  have hL : (linesOf x).map (·.cps.toList) = spl [] x.cps.toList := by
    have h := (spans_run x x.length 0 #[] 0 (by omega)).1 (Nat.le_refl _)
    rw [← ls_eq] at h
    simp only [List.drop_zero] at h
    refine Eq.trans ?_ h
    unfold linesOf lineCuts
    rw [List.map_map, List.map_map]
    refine List.map_congr_left fun p _ => ?_
    obtain ⟨i, j, k⟩ := p
    exact strSub_toList x i j
  unfold Txt.lines
  split
  · rename_i hc
    rw [← hL]
    unfold linesOf
    rw [beq_iff_eq.mp hc]
    simp only [List.map_cons, List.map_nil]
    rw [sub_whole]
  · exact hL
def rst (l : List Nat) : List Nat := (l.reverse.dropWhile Unicode.isSpace).reverse
theorem take_takeWhile_rev (p : Nat → Bool) (l : List Nat) : l.take (l.length - (l.reverse.takeWhile p).length) = (l.reverse.dropWhile p).reverse := by
  have h := List.takeWhile_append_dropWhile (p := p) (l := l.reverse)
  have h2 := congrArg List.reverse h
  rw [List.reverse_append, List.reverse_reverse] at h2
  have h3 := congrArg List.length h2
  rw [List.length_append, List.length_reverse, List.length_reverse] at h3
  conv => lhs; rw [← h2]
  rw [List.take_append_of_le_length (by rw [List.length_reverse]; rw [h2]; omega)]
  rw [List.take_of_length_le]
  rw [List.length_reverse, h2]
  omega
theorem rstrip_rst (x : Str) : (Txt.rstrip x).cps.toList = rst x.cps.toList := by
  unfold Txt.rstrip
  rw [PySem.W.stripBy_eq]
  show (strSub x 0 (x.length - ((x.cps.toList.drop 0).reverse.takeWhile Unicode.isSpace).length)).cps.toList = _
  rw [StrLaws.strSub_toList, List.drop_zero, Nat.sub_zero, ← cps_length, take_takeWhile_rev]
  rfl
def drl (cur r : List Nat) : List Nat := (spl cur r).flatMap fun l => lineGo (rst l)
theorem go_drl (x : Str) : (Txt.lines x).flatMap goS = drl [] x.cps.toList := by
  unfold drl
  rw [← lines_spl, List.flatMap_map]
  congr 1
  funext l
  show goS l = _
  unfold goS
  rw [rstrip_rst]
def decT (l : List Nat) : List Nat :=
  if (l.getLast? ≠ some 13 ∧ l.getLast? ≠ some 10) ∧ (drl [] l).getLast? = some 10 then (drl [] l).dropLast else drl [] l
theorem decL_eq (x : Str) : decL x = decT x.cps.toList := by
  unfold decL
  rw [go_drl]
  split
  · rename_i h
    have hl := cps_length x
    have e : x.cps.toList = [] := List.length_eq_zero_iff.mp (by omega)
    rw [e]
    rfl
  · rfl
end Mine
end PartF1
section PartF2
open PySem PySem.W PyProof.Rows PySem.Spec PySem.Calls PySem.Builtin.Str
set_option maxRecDepth 100000
set_option maxHeartbeats 4000000
namespace Mine
/-! ## char facts -/
theorem brk_iff (c : Nat) : brk c = true ↔ (10 ≤ c ∧ c ≤ 13) ∨ (28 ≤ c ∧ c ≤ 30) ∨ c = 133 ∨ c = 8232 ∨ c = 8233 := by
  unfold brk Unicode.isLineBreak
  simp only [UnicodeData.lineBreak, UnicodeData.lineBreak0, Unicode.within]
  constructor
  · intro h
    simp at h
    omega
  · intro h
    simp
    omega
theorem space_iff (c : Nat) : Unicode.isSpace c = true ↔ (9 ≤ c ∧ c ≤ 13) ∨ (28 ≤ c ∧ c ≤ 32) ∨ c = 133 ∨ c = 160 ∨ c = 5760 ∨ (8192 ≤ c ∧ c ≤ 8202) ∨ c = 8232 ∨ c = 8233 ∨ c = 8239 ∨ c = 8287 ∨ c = 12288 := by
  unfold Unicode.isSpace
  simp only [UnicodeData.space, UnicodeData.space0, Unicode.within]
  constructor
  · intro h
    simp at h
    omega
  · intro h
    simp
    omega
theorem white_iff (c : Nat) : whiteB c = true ↔ (9 ≤ c ∧ c ≤ 13) ∨ (28 ≤ c ∧ c ≤ 32) ∨ c = 133 ∨ c = 160 ∨ c = 5760 ∨ (8192 ≤ c ∧ c ≤ 8202) ∨ c = 8239 ∨ c = 8287 ∨ c = 12288 := by
  unfold whiteB
  simp only [Bool.or_eq_true, Bool.and_eq_true, decide_eq_true_eq, beq_iff_eq]
  omega
theorem end_iff (c : Nat) : endB c = true ↔ c = 13 ∨ c = 11 ∨ c = 12 ∨ c = 28 ∨ c = 29 ∨ c = 30 ∨ c = 133 := by
  unfold endB
  simp only [Bool.or_eq_true, beq_iff_eq]
  omega
theorem loose_iff (c : Nat) : looseB c = true ↔ c = 61 ∨ (c ≠ 10 ∧ ¬ endB c = true ∧ whiteB c = true) := by
  unfold looseB
  simp only [Bool.or_eq_true, Bool.and_eq_true, beq_iff_eq, bne_iff_ne, ne_eq, Bool.not_eq_true', and_assoc, Bool.not_eq_true]
theorem hex_iff (c : Nat) : isHex c = true ↔ (48 ≤ c ∧ c ≤ 57) ∨ (97 ≤ c ∧ c ≤ 102) ∨ (65 ≤ c ∧ c ≤ 70) := by
  unfold isHex
  simp only [Bool.or_eq_true, Bool.and_eq_true, decide_eq_true_eq]
  omega
theorem brk_end {c : Nat} (h : brk c = true) (h1 : c ≠ 10) (h2 : c ≠ 8232 ∧ c ≠ 8233) : endB c = true := by
  rw [brk_iff] at h; rw [end_iff]; omega
theorem end_brk {c : Nat} (h : endB c = true) : brk c = true := by
  rw [end_iff] at h; rw [brk_iff]; omega
theorem brk_hex {c : Nat} (h : brk c = true) : isHex c = false := by
  rw [brk_iff] at h; rw [← Bool.not_eq_true, hex_iff]; omega
theorem brk_eq {c : Nat} (h : brk c = true) : c ≠ 61 := by
  rw [brk_iff] at h; omega
/-- a sign that is no line end: loose is = or a blank -/
theorem loose_plain {c : Nat} (h : brk c = false) : looseB c = true ↔ c = 61 ∨ Unicode.isSpace c = true := by
  rw [← Bool.not_eq_true, brk_iff] at h
  rw [loose_iff, end_iff, white_iff, space_iff]
  omega

/-! ## hdec over a cut -/
def headHex (l : List Nat) : Bool := match l with | c :: _ => isHex c | [] => false
theorem hdec_append : ∀ (a b : List Nat), headHex b = false → hdec (a ++ b) = hdec a ++ hdec b := by
  intro a
  fun_induction hdec a with
  | case1 => intro b _; rfl
  | case2 x y r h ih =>
    intro b hb
    simp only [Bool.and_eq_true] at h
    show hdec (61 :: x :: y :: (r ++ b)) = _
    rw [hdec_oct h.1 h.2, ih b hb, List.cons_append]
  | case3 x y r h ih =>
    intro b hb
    show hdec (61 :: x :: y :: (r ++ b)) = _
    have h' : (isHex x && isHex y) = false := by simpa using h
    rw [hdec_no h']
    have := ih b hb
    rw [List.cons_append, List.cons_append] at this
    rw [this, List.cons_append]
  | case4 c r hx ih =>
    intro b hb
    rw [List.cons_append]
    by_cases hc : c = 61
    · subst hc
      match r, hx, ih with
      | [], _, _ =>
        match b, hb with
        | [], _ => rfl
        | [x], _ => rw [List.nil_append, hdec_short (by simp)]; rfl
        | x :: y :: b, hb =>
          have hb' : isHex x = false := hb
          rw [List.nil_append, hdec_no (by rw [hb']; rfl)]
          rfl
      | [x], _, ih =>
        have i9 := ih b hb
        match b, hb with
        | [], _ => rw [List.append_nil, hdec_short (by simp)]; simp [hdec]
        | y :: b, hb =>
          have hb' : isHex y = false := hb
          rw [List.cons_append, List.nil_append, hdec_no (by rw [hb']; simp)]
          rw [List.cons_append, List.nil_append] at i9
          rw [i9]; simp [hdec]
      | x :: y :: r, hx, _ => exact absurd rfl (hx x y r rfl)
    · rw [hdec_cons hc, ih b hb, List.cons_append]
theorem hdec_free : ∀ l : List Nat, 61 ∉ l → hdec l = l
  | [], _ => rfl
  | c :: r, h => by
    simp only [List.mem_cons, not_or] at h
    rw [hdec_cons (fun e => h.1 e.symm), hdec_free r h.2]
theorem hdec_brk {c : Nat} (h : brk c = true) (a r : List Nat) : hdec (a ++ c :: r) = hdec a ++ c :: hdec r := by
  rw [hdec_append a (c :: r) (brk_hex h), hdec_cons (brk_eq h)]

/-! ## a line -/
theorem go_hdec : ∀ l : List Nat, (l.getLast? ≠ some 61 → lineGo l = hdec l ++ [10]) ∧ (l.getLast? = some 61 → (lineGo l).length < (hdec l).length) := by
  intro l
  fun_induction lineGo l with
  | case1 => exact ⟨fun _ => rfl, fun h => nomatch h⟩
  | case2 => exact ⟨fun h => absurd rfl h, fun _ => by decide⟩
  | case3 x y r h ih =>
    simp only [Bool.and_eq_true] at h
    rw [hdec_oct h.1 h.2]
    have e : (61 :: x :: y :: r).getLast? = (y :: r).getLast? := by simp
    rw [e]
    cases r with
    | nil =>
      refine ⟨fun _ => rfl, fun h9 => ?_⟩
      have : y = 61 := by simpa using h9
      rw [this] at h
      exact absurd h.2 (by decide)
    | cons z r =>
      have e : (y :: z :: r).getLast? = (z :: r).getLast? := by simp
      rw [e]
      exact ⟨fun h9 => by rw [ih.1 h9, List.cons_append], fun h9 => by have := ih.2 h9; simp only [List.length_cons]; omega⟩
  | case4 x y r h ih =>
    have h' : (isHex x && isHex y) = false := by simpa using h
    rw [hdec_no h']
    have e : (61 :: x :: y :: r).getLast? = (x :: y :: r).getLast? := by simp
    rw [e]
    exact ⟨fun h9 => by rw [ih.1 h9, List.cons_append], fun h9 => by have := ih.2 h9; simp only [List.length_cons] at this ⊢; omega⟩
  | case5 c r h1 h2 ih =>
    have e : hdec (c :: r) = c :: hdec r := by
      by_cases hc : c = 61
      · subst hc
        match r, h1, h2 with
        | [], h1, _ => exact absurd rfl (h1 rfl)
        | [x], _, _ => exact hdec_short (by simp)
        | x :: y :: r, _, h2 => exact absurd rfl (h2 x y r rfl)
      · exact hdec_cons hc
    rw [e]
    cases r with
    | nil =>
      refine ⟨fun _ => rfl, fun h9 => ?_⟩
      have : c = 61 := by simpa using h9
      exact absurd rfl (h1 this)
    | cons z r =>
      have e : (c :: z :: r).getLast? = (z :: r).getLast? := by simp
      rw [e]
      exact ⟨fun h9 => by rw [ih.1 h9, List.cons_append], fun h9 => by have := ih.2 h9; simp only [List.length_cons]; omega⟩
theorem mem_tw (p : Nat → Bool) : ∀ (l : List Nat) (c : Nat), c ∈ l.takeWhile p → p c = true
  | [], _, h => nomatch h
  | a :: r, c, h => by
    rw [List.takeWhile_cons] at h
    split at h
    · rename_i ha
      rcases List.mem_cons.mp h with e | h
      · rw [e]; exact ha
      · exact mem_tw p r c h
    · exact nomatch h
theorem rst_cut (l : List Nat) : ∃ w, l = rst l ++ w ∧ (∀ c ∈ w, Unicode.isSpace c = true) ∧ (∀ c, (rst l).getLast? = some c → Unicode.isSpace c = false) := by
  have h := List.takeWhile_append_dropWhile (p := Unicode.isSpace) (l := l.reverse)
  have h2 := congrArg List.reverse h
  rw [List.reverse_append, List.reverse_reverse] at h2
  refine ⟨(l.reverse.takeWhile Unicode.isSpace).reverse, h2.symm, ?_, ?_⟩
  · intro c hc
    rw [List.mem_reverse] at hc
    exact mem_tw _ _ c hc
  · intro c hc
    unfold rst at hc
    rw [List.getLast?_reverse] at hc
    have := List.head?_dropWhile_not Unicode.isSpace l.reverse
    rw [hc] at this
    simpa using this
def lastL (l : List Nat) : Bool := match l.getLast? with | some c => looseB c | none => false
theorem line_clean {l : List Nat} (h : ∀ c ∈ l, brk c = false) (hc : lastL l = false) : lineGo (rst l) = hdec l ++ [10] := by
  obtain ⟨w, e, h1, h2⟩ := rst_cut l
  have hw : w = [] := by
    cases hg : w.getLast? with
    | none => exact List.getLast?_eq_none_iff.mp hg
    | some c =>
      have hcm := List.mem_of_getLast? hg
      have e2 : l.getLast? = some c := by rw [e, List.getLast?_append, hg]; rfl
      unfold lastL at hc
      rw [e2] at hc
      simp only at hc
      have := (loose_plain (h c (by rw [e]; exact List.mem_append_right _ hcm))).mpr (.inr (h1 c hcm))
      rw [this] at hc
      exact absurd hc (by decide)
  rw [hw, List.append_nil] at e
  rw [← e]
  refine (go_hdec l).1 fun h9 => ?_
  unfold lastL at hc
  rw [h9] at hc
  exact absurd hc (by decide)
theorem line_foul {l : List Nat} (h : ∀ c ∈ l, brk c = false) (hc : lastL l = true) : (lineGo (rst l)).length ≤ (hdec l).length ∧ ((lineGo (rst l)).getLast? ≠ some 10 → (lineGo (rst l)).length < (hdec l).length) := by
  obtain ⟨w, e, h1, h2⟩ := rst_cut l
  have hw61 : 61 ∉ w := fun hm => absurd (h1 61 hm) (by decide)
  have hhx : headHex w = false := by
    cases w with
    | nil => rfl
    | cons c r =>
      have := h1 c (.head _)
      rw [space_iff] at this
      show isHex c = false
      rw [← Bool.not_eq_true, hex_iff]
      omega
  have e3 : (hdec l).length = (hdec (rst l)).length + w.length := by
    have := congrArg hdec e
    rw [hdec_append _ _ hhx, hdec_free w hw61] at this
    rw [this, List.length_append]
  have g := go_hdec (rst l)
  by_cases h61 : (rst l).getLast? = some 61
  · have := g.2 h61
    exact ⟨by omega, fun _ => by omega⟩
  · have g1 := g.1 h61
    have hne : w ≠ [] := by
      intro hw
      rw [hw, List.append_nil] at e
      cases hg : l.getLast? with
      | none => unfold lastL at hc; rw [hg] at hc; exact absurd hc (by decide)
      | some c =>
        unfold lastL at hc
        rw [hg] at hc
        rcases (loose_plain (h c (List.mem_of_getLast? hg))).mp hc with h9 | h9
        · subst h9; rw [← e] at h61; exact h61 hg
        · have := h2 c (by rw [← e]; exact hg)
          rw [h9] at this
          exact absurd this (by decide)
    have hwl : 0 < w.length := List.length_pos_iff.mpr hne
    rw [g1, List.length_append]
    refine ⟨by simp only [List.length_cons, List.length_nil]; omega, fun h9 => absurd ?_ h9⟩
    simp
end Mine
end PartF2
section PartF3
open PySem PySem.W PyProof.Rows PySem.Spec PySem.Calls PySem.Builtin.Str
set_option maxRecDepth 100000
set_option maxHeartbeats 4000000
namespace Mine
/-! ## decode and header_decode answer alike just where the text is clean -/
def cln : Bool → List Nat → Bool
  | p, [] => !p
  | p, c :: r => !endB c && !(c == 10 && p) && cln (looseB c) r
theorem cln_line {r : List Nat} : ∀ (l : List Nat) (p : Bool), (∀ c ∈ l, brk c = false) → l ≠ [] → cln p (l ++ r) = cln (lastL l) r
  | [], _, _, h => absurd rfl h
  | [c], p, h, _ => by
    have hc := h c (.head _)
    have h1 : endB c = false := by
      cases he : endB c
      · rfl
      · rw [end_brk he] at hc; exact absurd hc (by decide)
    have h2 : (c == 10) = false := by
      cases he : c == 10
      · rfl
      · rw [beq_iff_eq.mp he] at hc; exact absurd hc (by decide)
    show (!endB c && !(c == 10 && p) && cln (looseB c) r) = _
    rw [h1, h2]
    rfl
  | c :: d :: l, p, h, _ => by
    have hc := h c (.head _)
    have h1 : endB c = false := by
      cases he : endB c
      · rfl
      · rw [end_brk he] at hc; exact absurd hc (by decide)
    have h2 : (c == 10) = false := by
      cases he : c == 10
      · rfl
      · rw [beq_iff_eq.mp he] at hc; exact absurd hc (by decide)
    show (!endB c && !(c == 10 && p) && cln (looseB c) ((d :: l) ++ r)) = _
    rw [h1, h2, cln_line (d :: l) _ (fun k hk => h k (.tail _ hk)) (by simp)]
    simp [lastL]
def ends (l : List Nat) : Nat := l.countP endB
theorem ends_app (a b : List Nat) : ends (a ++ b) = ends a + ends b := List.countP_append
theorem ends_cons (c : Nat) (r : List Nat) : ends (c :: r) = ends r + (if endB c then 1 else 0) := List.countP_cons
theorem go_ends (l : List Nat) : ends (lineGo l) ≤ ends (hdec l) := by
  fun_induction lineGo l with
  | case1 => decide
  | case2 => decide
  | case3 x y r h ih =>
    simp only [Bool.and_eq_true] at h
    rw [hdec_oct h.1 h.2, ends_cons, ends_cons]
    omega
  | case4 x y r h ih =>
    have h' : (isHex x && isHex y) = false := by simpa using h
    rw [hdec_no h', ends_cons, ends_cons]
    omega
  | case5 c r h1 h2 ih =>
    have e : hdec (c :: r) = c :: hdec r := by
      by_cases hc : c = 61
      · subst hc
        match r, h1, h2 with
        | [], h1, _ => exact absurd rfl (h1 rfl)
        | [x], _, _ => exact hdec_short (by simp)
        | x :: y :: r, _, h2 => exact absurd rfl (h2 x y r rfl)
      · exact hdec_cons hc
    rw [e, ends_cons, ends_cons]
    omega
theorem rst_ends (l : List Nat) : ends (hdec (rst l)) ≤ ends (hdec l) := by
  obtain ⟨w, e, h1, h2⟩ := rst_cut l
  have hhx : headHex w = false := by
    cases w with
    | nil => rfl
    | cons c r =>
      have := h1 c (.head _)
      rw [space_iff] at this
      show isHex c = false
      rw [← Bool.not_eq_true, hex_iff]
      omega
  have h3 := congrArg hdec e
  rw [hdec_append _ _ hhx] at h3
  rw [h3, ends_app]
  omega
theorem line_ends (l : List Nat) : ends (lineGo (rst l)) ≤ ends (hdec l) := Nat.le_trans (go_ends _) (rst_ends l)
theorem drl_crlf (cur r : List Nat) : drl cur (13 :: 10 :: r) = lineGo (rst cur) ++ drl [] r := by
  unfold drl
  rw [spl.eq_2, List.flatMap_cons]
theorem drl_brk {cur r : List Nat} {c : Nat} (h : brk c = true) (h2 : ¬ (c = 13 ∧ r.head? = some 10)) : drl cur (c :: r) = lineGo (rst cur) ++ drl [] r := by
  unfold drl
  rw [spl_brk h h2, List.flatMap_cons]
theorem drl_no {cur r : List Nat} {c : Nat} (h : brk c = false) : drl cur (c :: r) = drl (cur ++ [c]) r := by
  unfold drl
  rw [spl_no h]
theorem drl_nil (cur : List Nat) : drl cur [] = if cur = [] then [] else lineGo (rst cur) := by
  unfold drl
  rw [spl.eq_1]
  split <;> simp
/-- each literal line end is lost -/
theorem drl_ends : ∀ (n : Nat) (r cur : List Nat), r.length ≤ n → Good r → ends (drl cur r) + ends r ≤ ends (hdec (cur ++ r))
  | n, [], cur, _, _ => by
    rw [drl_nil, List.append_nil]
    split
    · exact Nat.zero_le _
    · have := line_ends cur
      show _ + 0 ≤ _
      omega
  | 0, c :: r, _, h, _ => by simp at h
  | n + 1, c :: r, cur, hn, hg => by
    have hn : r.length ≤ n := by simpa using hn
    have hg2 : Good r := fun k hk => hg k (.tail _ hk)
    by_cases hb : brk c = true
    · by_cases hcr : c = 13 ∧ r.head? = some 10
      · obtain ⟨rfl, hr⟩ := hcr
        cases r with
        | nil => exact nomatch hr
        | cons d r =>
          have hd : d = 10 := by simpa using hr
          subst hd
          have ih := drl_ends n r [] (by simp at hn; omega) (fun k hk => hg2 k (.tail _ hk))
          have h1 := line_ends cur
          rw [drl_crlf, hdec_brk (by decide), hdec_cons (by decide)]
          simp only [ends_app, ends_cons]
          rw [List.nil_append] at ih
          omega
      · have ih := drl_ends n r [] hn hg2
        have h1 := line_ends cur
        rw [drl_brk hb hcr, hdec_brk hb]
        simp only [ends_app, ends_cons]
        rw [List.nil_append] at ih
        omega
    · have hb : brk c = false := by simpa using hb
      have ih := drl_ends n r (cur ++ [c]) hn hg2
      have he : endB c = false := by
        cases he : endB c
        · rfl
        · rw [end_brk he] at hb; exact absurd hb (by decide)
      rw [drl_no hb, ends_cons, he]
      rw [List.append_assoc, List.singleton_append] at ih
      simpa using ih
def tl (l : List Nat) : List Nat := if l = [] ∨ l.getLast? = some 10 then [] else [10]
theorem tl_cut (a r : List Nat) : tl (a ++ 10 :: r) = tl r := by
  unfold tl
  cases r with
  | nil => simp
  | cons c r =>
    rw [List.getLast?_append]
    simp
theorem tl_line {l : List Nat} (h : ∀ c ∈ l, brk c = false) (hne : l ≠ []) : tl l = [10] := by
  unfold tl
  rw [if_neg]
  rintro (h1 | h1)
  · exact hne h1
  · have := h 10 (List.mem_of_getLast? h1)
    exact absurd this (by decide)
theorem getLast_app {a b : List Nat} (h : b ≠ []) : (a ++ b).getLast? = b.getLast? := by
  rw [List.getLast?_append]
  cases hb : b.getLast? with
  | none => exact absurd (List.getLast?_eq_none_iff.mp hb) h
  | some c => rfl
theorem hdec_pos {l : List Nat} (h : l ≠ []) : 0 < (hdec l).length := by
  cases l with
  | nil => exact absurd rfl h
  | cons c r =>
    by_cases hc : c = 61
    · subst hc
      match r with
      | [] => rw [hdec_short (by simp)]; simp
      | [x] => rw [hdec_short (by simp)]; simp
      | x :: y :: r =>
        cases h : isHex x && isHex y
        · rw [hdec_no h]; simp
        · simp only [Bool.and_eq_true] at h
          rw [hdec_oct h.1 h.2]; simp
    · rw [hdec_cons hc]; simp
/-- a text without END signs, from a line's inside on -/
theorem drl_two : ∀ (r cur : List Nat), Good r → ends r = 0 → (∀ c ∈ cur, brk c = false) →
    (cln (lastL cur) r = true → drl cur r = hdec (cur ++ r) ++ tl (cur ++ r)) ∧
    (cln (lastL cur) r = false → (drl cur r).length < (hdec (cur ++ r)).length + (tl (cur ++ r)).length ∧ (tl (cur ++ r) = [10] → (drl cur r).getLast? ≠ some 10 → (drl cur r).length < (hdec (cur ++ r)).length))
  | [], cur, _, _, hc => by
    rw [drl_nil, List.append_nil]
    by_cases hn : cur = []
    · subst hn
      refine ⟨fun _ => rfl, fun h => ?_⟩
      exact absurd h (by decide)
    · rw [if_neg hn, tl_line hc hn]
      refine ⟨fun h => line_clean hc (by simpa [cln] using h), fun h => ?_⟩
      have := line_foul hc (by simpa [cln] using h)
      exact ⟨by simp only [List.length_cons, List.length_nil]; omega, fun _ h9 => this.2 h9⟩
  | c :: r, cur, hg, he, hc => by
    have hg2 : Good r := fun k hk => hg k (.tail _ hk)
    rw [ends_cons] at he
    have he2 : ends r = 0 := by omega
    have hec : endB c = false := by
      cases h : endB c
      · rfl
      · rw [h] at he; simp at he
    by_cases hb : brk c = true
    · have h10 : c = 10 := by
        by_cases h9 : c = 10
        · exact h9
        · rw [brk_end hb h9 (hg c (.head _))] at hec; exact absurd hec (by decide)
      subst h10
      have ih := drl_two r [] hg2 he2 (fun _ h => nomatch h)
      rw [List.nil_append] at ih
      rw [drl_brk hb (fun h => absurd h.1 (by decide)), hdec_brk hb, tl_cut]
      have e : cln (lastL cur) (10 :: r) = (!lastL cur && cln false r) := by
        show (!endB 10 && !(10 == 10 && lastL cur) && cln (looseB 10) r) = _
        rw [show endB 10 = false from rfl, show looseB 10 = false from rfl]
        simp
      rw [e]
      have ih1 : cln false r = true → drl [] r = hdec r ++ tl r := ih.1
      have ih2 : cln false r = false → (drl [] r).length < (hdec r).length + (tl r).length ∧ (tl r = [10] → (drl [] r).getLast? ≠ some 10 → (drl [] r).length < (hdec r).length) := ih.2
      have hA : (lineGo (rst cur)).length ≤ (hdec cur).length + 1 ∧ (lastL cur = true → (lineGo (rst cur)).length ≤ (hdec cur).length) := by
        cases hl : lastL cur
        · rw [line_clean hc hl]
          simp
        · have := (line_foul hc hl).1
          exact ⟨by omega, fun _ => this⟩
      refine ⟨fun h => ?_, fun h => ?_⟩
      · simp only [Bool.and_eq_true, Bool.not_eq_true'] at h
        rw [line_clean hc h.1, ih1 h.2]
        simp
      · simp only [List.length_append, List.length_cons]
        cases hr : cln false r
        · have q := ih2 hr
          refine ⟨by omega, fun ht h9 => ?_⟩
          by_cases hd : drl [] r = []
          · have := q.2 ht (by rw [hd]; simp)
            omega
          · rw [getLast_app hd] at h9
            have := q.2 ht h9
            omega
        · have q := ih1 hr
          rw [hr] at h
          have hl : lastL cur = true := by simpa using h
          have hA2 := hA.2 hl
          have hq := congrArg List.length q
          rw [List.length_append] at hq
          refine ⟨by omega, fun ht h9 => ?_⟩
          exfalso
          rw [q, ht, ← List.append_assoc] at h9
          exact h9 (by simp)
    · have hb : brk c = false := by simpa using hb
      have ih := drl_two r (cur ++ [c]) hg2 he2 (fun k hk => (List.mem_append.mp hk).elim (hc k) (fun h => by rw [List.mem_singleton.mp h]; exact hb))
      have e : cln (lastL cur) (c :: r) = cln (lastL (cur ++ [c])) r := by
        have h2 : (c == 10) = false := by
          cases h : c == 10
          · rfl
          · rw [beq_iff_eq.mp h] at hb; exact absurd hb (by decide)
        show (!endB c && !(c == 10 && lastL cur) && cln (looseB c) r) = _
        rw [hec, h2]
        simp [lastL]
      rw [drl_no hb, e]
      rw [List.append_assoc, List.singleton_append] at ih
      exact ih
theorem cln_ends : ∀ (l : List Nat) (p : Bool), cln p l = true → ends l = 0
  | [], _, _ => rfl
  | c :: r, p, h => by
    have h : (!endB c && !(c == 10 && p) && cln (looseB c) r) = true := h
    simp only [Bool.and_eq_true, Bool.not_eq_true'] at h
    rw [ends_cons, cln_ends r _ h.2, h.1.1]
    rfl
theorem ends_mem {l : List Nat} (h : ends l = 0) {c : Nat} (hc : c ∈ l) : endB c = false := by
  have := List.countP_eq_zero.mp h c hc
  simpa using this
theorem decT_clean {l : List Nat} (hg : Good l) (h : cln false l = true) : decT l = hdec l := by
  have he := cln_ends l _ h
  have q := (drl_two l [] hg he (fun _ h => nomatch h)).1 h
  rw [List.nil_append] at q
  unfold decT
  rw [q]
  by_cases hn : l = []
  · subst hn; rfl
  · by_cases h10 : l.getLast? = some 10
    · have ht : tl l = [] := by unfold tl; rw [if_pos (.inr h10)]
      rw [ht, if_neg (fun h9 => h9.1.2 h10), List.append_nil]
    · have ht : tl l = [10] := by unfold tl; rw [if_neg (by rintro (h9 | h9); exact hn h9; exact h10 h9)]
      rw [ht, if_pos]
      · simp
      · refine ⟨⟨fun h13 => ?_, h10⟩, by simp⟩
        have := ends_mem he (List.mem_of_getLast? h13)
        exact absurd this (by decide)
theorem decT_foul {l : List Nat} (hg : Good l) (h : cln false l = false) : decT l ≠ hdec l := by
  intro e
  by_cases he : ends l = 0
  · have q := (drl_two l [] hg he (fun _ h => nomatch h)).2 h
    rw [List.nil_append] at q
    have e2 := congrArg List.length e
    unfold decT at e2
    have hn : l ≠ [] := by rintro rfl; exact absurd h (by decide)
    by_cases h10 : l.getLast? = some 10
    · rw [if_neg (fun h9 => h9.1.2 h10)] at e2
      have ht : tl l = [] := by unfold tl; rw [if_pos (.inr h10)]
      rw [ht] at q
      have := q.1
      simp only [List.length_nil] at this
      omega
    · have ht : tl l = [10] := by unfold tl; rw [if_neg (by rintro (h9 | h9); exact hn h9; exact h10 h9)]
      rw [ht] at q
      have q1 := q.1
      simp only [List.length_cons, List.length_nil] at q1
      by_cases hd : (drl [] l).getLast? = some 10
      · have h13 : l.getLast? ≠ some 13 := fun h13 => by
          have := ends_mem he (List.mem_of_getLast? h13)
          exact absurd this (by decide)
        rw [if_pos ⟨⟨h13, h10⟩, hd⟩, List.length_dropLast] at e2
        have : 0 < (drl [] l).length := by
          cases hx : drl [] l with
          | nil => rw [hx] at hd; exact nomatch hd
          | cons _ _ => simp
        omega
      · have := q.2 rfl hd
        rw [if_neg (fun h9 => hd h9.2)] at e2
        omega
  · have q := drl_ends l.length l [] (Nat.le_refl _) hg
    rw [List.nil_append] at q
    have : ends (decT l) ≤ ends (drl [] l) := by
      unfold decT
      split
      · exact List.Sublist.countP_le (List.dropLast_sublist _)
      · exact Nat.le_refl _
    rw [e] at this
    omega
theorem decT_iff {l : List Nat} (hg : Good l) : decT l = hdec l ↔ cln false l = true := by
  cases h : cln false l
  · exact ⟨fun e => absurd e (decT_foul hg h), fun e => absurd e (by decide)⟩
  · exact ⟨fun _ => rfl, fun _ => decT_clean hg h⟩
end Mine
end PartF3
section PartF4
open PySem PySem.W PyProof.Rows PySem.Spec PySem.Calls PySem.Builtin.Str
set_option maxRecDepth 100000
set_option maxHeartbeats 4000000
namespace Mine
/-! ## the law's spelling and its price, from the front -/
def escH (s : List Nat) : Bool := s.getD 0 0 == 61 && isHex (s.getD 1 0) && isHex (s.getD 2 0)
def spellR : Bool → List Nat → List Nat
  | _, [] => []
  | p, c :: r => (if escH (c :: r) || c == 95 || endB c || (r.isEmpty && looseB c && decide (c < 256)) then octL c else if c == 10 && p then [61, 48, 65] else [c]) ++ spellR (looseB c) r
def countR : Bool → List Nat → Nat
  | p, [] => if p then 2 else 0
  | p, c :: r => 1 + (if escH (c :: r) || c == 95 || endB c || (c == 10 && p) then 2 else 0) + countR (looseB c) r
theorem drop_getD (l : List Nat) (n i : Nat) : (l.drop n).getD i 0 = l.getD (n + i) 0 := by
  rw [List.getD_eq_getElem?_getD, List.getD_eq_getElem?_getD, List.getElem?_drop]
theorem esc_at (l : List Nat) (n : Nat) : escH (l.drop n) = escL l n := by
  unfold escH escL
  rw [drop_getD, drop_getD, drop_getD]
  rfl
theorem lastL_take {l : List Nat} {n : Nat} (h : n < l.length) : lastL (l.take (n + 1)) = looseB (l.getD n 0) := by
  have e : l.take (n + 1) = l.take n ++ [l[n]] := by rw [List.take_add_one, List.getElem?_eq_getElem h]; rfl
  have e2 : l.getD n 0 = l[n] := by rw [List.getD_eq_getElem?_getD, List.getElem?_eq_getElem h]; rfl
  unfold lastL
  rw [e, e2, List.getLast?_concat]
theorem soft_at {l : List Nat} {n : Nat} (h : n < l.length) : softB l n = (l.getD n 0 == 10 && lastL (l.take n)) := by
  unfold softB
  cases n with
  | zero => simp [lastL]
  | succ n =>
    rw [lastL_take (by omega)]
    simp
theorem getD_lt {l : List Nat} {n : Nat} (h : n < l.length) : l.getD n 0 = l[n] := by
  rw [List.getD_eq_getElem?_getD, List.getElem?_eq_getElem h]; rfl
theorem spell_pre (l : List Nat) : ∀ n, n ≤ l.length → spellTo l n ++ spellR (lastL (l.take n)) (l.drop n) = spellR false l
  | 0, _ => by rw [List.take_zero, List.drop_zero]; rfl
  | n + 1, h => by
    have hn : n < l.length := by omega
    rw [← spell_pre l n (by omega), spellTo_succ, List.append_assoc]
    congr 1
    have e := esc_at l n
    rw [List.drop_eq_getElem_cons hn] at e ⊢
    rw [lastL_take hn, getD_lt hn]
    show _ = _ ++ spellR (looseB l[n]) (l.drop (n + 1))
    congr 1
    rw [e]
    unfold spellAt priceB lastB
    rw [soft_at hn, getD_lt hn]
    have e2 : (l.drop (n + 1)).isEmpty = decide (n + 1 = l.length) := by
      rw [Bool.eq_iff_iff, List.isEmpty_iff, decide_eq_true_eq, List.drop_eq_nil_iff]
      omega
    rw [e2]
theorem spell_eq (l : List Nat) : spellL l = spellR false l := by
  rw [← spell_pre l l.length (Nat.le_refl _), List.drop_eq_nil_of_le (Nat.le_refl _)]
  exact (List.append_nil _).symm
theorem count_pre (l : List Nat) : ∀ n, n ≤ l.length → n + costTo l n + countR (lastL (l.take n)) (l.drop n) = countR false l
  | 0, _ => by
    have h0 : costTo l 0 = 0 := rfl
    have h1 : lastL [] = false := rfl
    rw [List.take_zero, List.drop_zero, h0, h1]
    omega
  | n + 1, h => by
    have hn : n < l.length := by omega
    rw [← count_pre l n (by omega), costTo_succ]
    have e := esc_at l n
    rw [List.drop_eq_getElem_cons hn] at e ⊢
    rw [lastL_take hn, getD_lt hn]
    show _ = _ + (1 + (if escH (l[n] :: l.drop (n + 1)) || l[n] == 95 || endB l[n] || (l[n] == 10 && lastL (l.take n)) then 2 else 0) + countR (looseB l[n]) (l.drop (n + 1)))
    rw [e]
    unfold costAt priceB
    rw [soft_at hn, getD_lt hn]
    omega
theorem count_eq (l : List Nat) : countL l = countR false l := by
  rw [← count_pre l l.length (Nat.le_refl _), List.drop_eq_nil_of_le (Nat.le_refl _), List.take_length]
  rfl

theorem hex_plain {h : Nat} (hh : isHex h = true) : endB h = false ∧ h ≠ 10 ∧ looseB h = false ∧ h ≠ 95 ∧ h ≠ 61 ∧ h < 256 ∧ brk h = false := by
  rw [hex_iff] at hh
  rw [← Bool.not_eq_true, ← Bool.not_eq_true, ← Bool.not_eq_true, loose_iff, end_iff, white_iff, brk_iff]
  omega
theorem fig_hex : ∀ d, d < 16 → isHex (fig d) = true ∧ hv (fig d) = d := by decide
theorem oct_hdec {c : Nat} (h : c < 256) (s : List Nat) : hdec (octL c ++ s) = c :: hdec s := by
  have h1 := fig_hex (c / 16) (by omega)
  have h2 := fig_hex (c % 16) (by omega)
  show hdec (61 :: fig (c / 16) :: fig (c % 16) :: s) = _
  rw [hdec_oct h1.1 h2.1, h1.2, h2.2]
  congr 1
  omega
theorem hex_cln {h : Nat} (hh : isHex h = true) (p : Bool) (s : List Nat) : cln p (h :: s) = cln false s := by
  obtain ⟨h1, h2, h3, -⟩ := hex_plain hh
  show (!endB h && !(h == 10 && p) && cln (looseB h) s) = _
  rw [h1, h3, beq_false_of_ne h2]
  rfl
theorem esc_cln {a b : Nat} (ha : isHex a = true) (hb : isHex b = true) (p : Bool) (s : List Nat) : cln p (61 :: a :: b :: s) = cln false s := by
  show (!endB 61 && !(61 == 10 && p) && cln (looseB 61) (a :: b :: s)) = _
  rw [hex_cln ha, hex_cln hb]
  rfl
theorem oct_cln {c : Nat} (h : c < 256) (p : Bool) (s : List Nat) : cln p (octL c ++ s) = cln false s :=
  esc_cln (fig_hex (c / 16) (by omega)).1 (fig_hex (c % 16) (by omega)).1 p s
theorem soft_hdec (s : List Nat) : hdec ([61, 48, 65] ++ s) = 10 :: hdec s := by
  show hdec (61 :: 48 :: 65 :: s) = _
  rw [hdec_oct (by decide) (by decide)]; rfl
theorem price_256 {c : Nat} {r : List Nat} {b : Bool} (h : (escH (c :: r) || c == 95 || endB c || (b && looseB c && decide (c < 256))) = true) : c < 256 := by
  simp only [Bool.or_eq_true, Bool.and_eq_true, beq_iff_eq, decide_eq_true_eq] at h
  rcases h with ((h | h) | h) | h
  · unfold escH at h
    simp only [Bool.and_eq_true, beq_iff_eq] at h
    have : c = 61 := h.1.1
    omega
  · omega
  · rw [end_iff] at h; omega
  · exact h.2
theorem spell_head {p : Bool} {r : List Nat} (h : isHex ((spellR p r).getD 0 0) = true) : ∃ d r', r = d :: r' ∧ isHex d = true ∧ spellR p r = d :: spellR (looseB d) r' := by
  cases r with
  | nil => exact absurd h (by unfold spellR; decide)
  | cons d r' =>
    rw [spellR] at h ⊢
    by_cases h1 : (escH (d :: r') || d == 95 || endB d || (r'.isEmpty && looseB d && decide (d < 256))) = true
    · rw [if_pos h1] at h
      exact absurd h (by show ¬ isHex 61 = true; decide)
    · rw [if_neg h1] at h ⊢
      by_cases h2 : (d == 10 && p) = true
      · rw [if_pos h2] at h
        exact absurd h (by show ¬ isHex 61 = true; decide)
      · rw [if_neg h2] at h ⊢
        exact ⟨d, r', rfl, h, rfl⟩
theorem hdec_lit {s : List Nat} (h : ¬ (isHex (s.getD 0 0) = true ∧ isHex (s.getD 1 0) = true)) : hdec (61 :: s) = 61 :: hdec s := by
  match s, h with
  | [], _ => exact hdec_short (by simp)
  | [x], _ => exact hdec_short (by simp)
  | x :: y :: r, h =>
    refine hdec_no ?_
    cases hx : isHex x
    · rfl
    · cases hy : isHex y
      · rfl
      · exact absurd ⟨hx, hy⟩ h
theorem spell_hdec : ∀ (t : List Nat) (p : Bool), hdec (spellR p t) = t
  | [], _ => rfl
  | c :: r, p => by
    have ih := spell_hdec r (looseB c)
    unfold spellR
    by_cases h1 : (escH (c :: r) || c == 95 || endB c || (r.isEmpty && looseB c && decide (c < 256))) = true
    · rw [if_pos h1, oct_hdec (price_256 h1), ih]
    · rw [if_neg h1]
      by_cases h2 : (c == 10 && p) = true
      · rw [if_pos h2, soft_hdec, ih]
        simp only [Bool.and_eq_true, beq_iff_eq] at h2
        rw [h2.1]
      · rw [if_neg h2, List.singleton_append]
        by_cases hc : c = 61
        · subst hc
          rw [hdec_lit, ih]
          rintro ⟨h3, h4⟩
          obtain ⟨d, r', rfl, hd, e⟩ := spell_head h3
          rw [e] at h4
          have h4 : isHex ((spellR (looseB d) r').getD 0 0) = true := h4
          obtain ⟨e', r'', rfl, he, -⟩ := spell_head h4
          have : escH (61 :: d :: e' :: r'') = true := by
            show (61 == 61 && isHex d && isHex e') = true
            rw [hd, he]; rfl
          rw [this] at h1
          exact h1 rfl
        · rw [hdec_cons hc, ih]
theorem far_cons {c d : Nat} {r : List Nat} : farL (c :: d :: r) = farL (d :: r) := by
  unfold farL
  simp
theorem far_loose {c : Nat} : farL [c] = false → looseB c = true → c < 256 := by
  intro h h2
  unfold farL at h
  rw [loose_iff] at h2
  simp at h
  rcases h2 with h2 | h2
  · omega
  · by_cases h3 : 255 < c
    · rw [h h3] at h2; exact absurd h2.2.2 (by decide)
    · omega
theorem spell_clean : ∀ (t : List Nat) (p q : Bool), (q = true → p = true) → (t = [] → q = false) → farL t = false → cln q (spellR p t) = true
  | [], p, q, _, h, _ => by show (!q) = true; rw [h rfl]; rfl
  | c :: r, p, q, hq, _, hf => by
    have hf2 : farL r = false := by
      cases r with
      | nil => rfl
      | cons d r => rw [far_cons] at hf; exact hf
    unfold spellR
    by_cases h1 : (escH (c :: r) || c == 95 || endB c || (r.isEmpty && looseB c && decide (c < 256))) = true
    · rw [if_pos h1, oct_cln (price_256 h1)]
      exact spell_clean r _ _ (fun h => nomatch h) (fun _ => rfl) hf2
    · rw [if_neg h1]
      by_cases h2 : (c == 10 && p) = true
      · rw [if_pos h2]
        show cln q (61 :: 48 :: 65 :: _) = true
        rw [esc_cln (by decide) (by decide)]
        exact spell_clean r _ _ (fun h => nomatch h) (fun _ => rfl) hf2
      · rw [if_neg h2, List.singleton_append]
        have h1 : (escH (c :: r) || c == 95 || endB c || (r.isEmpty && looseB c && decide (c < 256))) = false := by simpa using h1
        simp only [Bool.or_eq_false_iff] at h1
        have h2 : (c == 10 && q) = false := by
          cases hcq : c == 10
          · rfl
          · cases hqq : q
            · rfl
            · rw [hcq, hq hqq] at h2; exact absurd rfl h2
        show (!endB c && !(c == 10 && q) && cln (looseB c) (spellR (looseB c) r)) = true
        rw [h1.1.2, h2, spell_clean r _ _ (fun h => h) ?_ hf2]
        · rfl
        · intro hr
          subst hr
          have h3 := h1.2
          cases hl : looseB c
          · rfl
          · rw [hl, decide_eq_true (far_loose hf hl)] at h3
            exact absurd h3 (by decide)
theorem spell_und : ∀ (t : List Nat) (p : Bool), 95 ∉ spellR p t
  | [], _ => fun h => nomatch h
  | c :: r, p => by
    have ih := spell_und r (looseB c)
    unfold spellR
    by_cases h1 : (escH (c :: r) || c == 95 || endB c || (r.isEmpty && looseB c && decide (c < 256))) = true
    · have hc := price_256 h1
      have f1 := (hex_plain (fig_hex (c / 16) (by omega)).1).2.2.2.1
      have f2 := (hex_plain (fig_hex (c % 16) (by omega)).1).2.2.2.1
      rw [if_pos h1]
      intro h
      have h : 95 ∈ 61 :: fig (c / 16) :: fig (c % 16) :: spellR (looseB c) r := h
      simp only [List.mem_cons] at h
      rcases h with h | h | h | h
      · exact absurd h (by decide)
      · exact f1 h.symm
      · exact f2 h.symm
      · exact ih h
    · rw [if_neg h1]
      by_cases h2 : (c == 10 && p) = true
      · rw [if_pos h2]
        intro h
        have h : 95 ∈ 61 :: 48 :: 65 :: spellR (looseB c) r := h
        simp only [List.mem_cons] at h
        rcases h with h | h | h | h
        · exact absurd h (by decide)
        · exact absurd h (by decide)
        · exact absurd h (by decide)
        · exact ih h
      · rw [if_neg h2]
        intro h
        have h : 95 ∈ c :: spellR (looseB c) r := h
        rcases List.mem_cons.mp h with h | h
        · subst h; exact h1 (by simp)
        · exact ih h
theorem good_256 {k : Nat} (h : k < 256) : k ≠ 8232 ∧ k ≠ 8233 := by omega
theorem spell_good : ∀ (t : List Nat) (p : Bool), Good t → Good (spellR p t)
  | [], _, _ => fun _ h => nomatch h
  | c :: r, p, hg => by
    have ih := spell_good r (looseB c) (fun k hk => hg k (.tail _ hk))
    unfold spellR
    refine Good.append ?_ ih
    by_cases h1 : (escH (c :: r) || c == 95 || endB c || (r.isEmpty && looseB c && decide (c < 256))) = true
    · have hc := price_256 h1
      have f1 := (hex_plain (fig_hex (c / 16) (by omega)).1).2.2.2.2.2.1
      have f2 := (hex_plain (fig_hex (c % 16) (by omega)).1).2.2.2.2.2.1
      rw [if_pos h1]
      intro k h
      have h : k ∈ [61, fig (c / 16), fig (c % 16)] := h
      simp only [List.mem_cons, List.not_mem_nil, or_false] at h
      rcases h with h | h | h
      · exact good_256 (by omega)
      · exact good_256 (by omega)
      · exact good_256 (by omega)
    · rw [if_neg h1]
      by_cases h2 : (c == 10 && p) = true
      · rw [if_pos h2]
        unfold Good
        decide
      · rw [if_neg h2]
        intro k hk
        rw [List.mem_singleton.mp hk]
        exact hg c (.head _)
theorem spell_count : ∀ (t : List Nat) (p : Bool), (t = [] → p = false) → farL t = false → (spellR p t).length = countR p t
  | [], p, h, _ => by rw [h rfl]; rfl
  | c :: r, p, _, hf => by
    have hoct : (octL c).length = 3 := rfl
    cases r with
    | nil =>
      have he : escH [c] = false := by unfold escH; simp [isHex]
      unfold spellR countR
      rw [he]
      show (_ ++ []).length = 1 + _ + (if looseB c then 2 else 0)
      rw [List.append_nil]
      cases hl : looseB c
      · simp only [Bool.false_or, Bool.and_false, Bool.false_and, Bool.or_false]
        by_cases h1 : (c == 95 || endB c) = true
        · rw [if_pos h1, if_pos (by rw [h1]; rfl)]; rfl
        · have h1 : (c == 95 || endB c) = false := by simpa using h1
          rw [h1]
          simp only [Bool.false_or, Bool.false_eq_true, if_false]
          by_cases h2 : (c == 10 && p) = true
          · rw [if_pos h2, if_pos h2]; rfl
          · rw [if_neg h2, if_neg h2]; rfl
      · have h3 := far_loose hf hl
        have h4 := (loose_iff c).mp hl
        rw [decide_eq_true h3]
        simp only [List.isEmpty_nil, Bool.and_self, Bool.or_true, if_true]
        rw [if_neg]
        · rfl
        · simp only [Bool.false_or, Bool.or_eq_true, Bool.and_eq_true, beq_iff_eq]
          rw [end_iff]
          rw [end_iff, white_iff] at h4
          omega
    | cons d r =>
      have ih := spell_count (d :: r) (looseB c) (fun h => nomatch h) (by rw [far_cons] at hf; exact hf)
      rw [spellR, countR, List.length_append, ih]
      congr 1
      simp only [List.isEmpty_cons, Bool.false_and, Bool.or_false]
      by_cases h1 : (escH (c :: d :: r) || c == 95 || endB c) = true
      · rw [if_pos h1, if_pos (by rw [h1]; rfl)]; rfl
      · have h1 : (escH (c :: d :: r) || c == 95 || endB c) = false := by simpa using h1
        rw [h1]
        simp only [Bool.false_or, Bool.false_eq_true, if_false]
        by_cases h2 : (c == 10 && p) = true
        · rw [if_pos h2, if_pos h2]; rfl
        · rw [if_neg h2, if_neg h2]; rfl
theorem spell_len : ∀ (t : List Nat) (p : Bool), t.length ≤ (spellR p t).length
  | [], _ => Nat.le_refl _
  | c :: r, p => by
    have ih := spell_len r (looseB c)
    unfold spellR
    rw [List.length_append, List.length_cons]
    have : 1 ≤ (if escH (c :: r) || c == 95 || endB c || (r.isEmpty && looseB c && decide (c < 256)) then octL c else if c == 10 && p then [61, 48, 65] else [c]).length := by
      split
      · show 1 ≤ 3; omega
      · split <;> simp
    omega
theorem spell_far {c : Nat} (h1 : 255 < c) (h2 : whiteB c = true) : ∀ (m : List Nat) (p : Bool), ∃ s, spellR p (m ++ [c]) = s ++ [c]
  | [], p => by
    refine ⟨[], ?_⟩
    have hw := (white_iff c).mp h2
    show spellR p [c] = [c]
    unfold spellR
    rw [if_neg, if_neg]
    · rfl
    · simp only [Bool.and_eq_true, beq_iff_eq]; omega
    · intro h
      have := price_256 h
      omega
  | d :: m, p => by
    obtain ⟨s, e⟩ := spell_far h1 h2 m (looseB d)
    rw [List.cons_append, spellR, e, ← List.append_assoc]
    exact ⟨_, rfl⟩
theorem cln_last {c : Nat} (h : looseB c = true) : ∀ (s : List Nat) (p : Bool), cln p (s ++ [c]) = false
  | [], p => by
    show (!endB c && !(c == 10 && p) && (!looseB c)) = false
    rw [h]; simp
  | d :: s, p => by
    show (!endB d && !(d == 10 && p) && cln (looseB d) (s ++ [c])) = false
    rw [cln_last h s]; simp
end Mine
end PartF4
section PartF5
open PySem PySem.W PyProof.Rows PySem.Spec PySem.Calls PySem.Builtin.Str
set_option maxRecDepth 100000
set_option maxHeartbeats 4000000
namespace Mine
/-! ## a text on which both readers agree pays its answer's price -/
theorem hdec_split (c : Nat) (r : List Nat) : (∃ x y r', r = x :: y :: r' ∧ c = 61 ∧ isHex x = true ∧ isHex y = true ∧ hdec (c :: r) = (16 * hv x + hv y) :: hdec r') ∨ (hdec (c :: r) = c :: hdec r ∧ escH (c :: r) = false) := by
  by_cases hc : c = 61
  · subst hc
    by_cases h : isHex (r.getD 0 0) = true ∧ isHex (r.getD 1 0) = true
    · match r, h with
      | [], h => exact absurd h.1 (by decide)
      | [x], h => exact absurd h.2 (by show ¬ isHex 0 = true; decide)
      | x :: y :: r', h => exact .inl ⟨x, y, r', rfl, rfl, h.1, h.2, hdec_oct h.1 h.2⟩
    · refine .inr ⟨hdec_lit h, ?_⟩
      show (61 == 61 && isHex (r.getD 0 0) && isHex (r.getD 1 0)) = false
      rw [← Bool.not_eq_true]
      simpa using h
  · refine .inr ⟨hdec_cons hc, ?_⟩
    show (c == 61 && isHex (r.getD 0 0) && isHex (r.getD 1 0)) = false
    rw [beq_false_of_ne hc]
    rfl
theorem count_hex {v : Nat} (hv' : isHex v = true) (p : Bool) (a : List Nat) : countR p (v :: a) = 1 + countR false a := by
  obtain ⟨h1, h2, h3, h4, h5, -⟩ := hex_plain hv'
  rw [countR, h1, h3, beq_false_of_ne h2, beq_false_of_ne h4]
  have : escH (v :: a) = false := by
    show (v == 61 && isHex (a.getD 0 0) && isHex (a.getD 1 0)) = false
    rw [beq_false_of_ne h5]; rfl
  rw [this]
  simp
def headN (l : List Nat) : Bool := match l with | [] => true | c :: _ => c == 10
theorem charge : ∀ (n : Nat) (o : List Nat) (p q : Bool), o.length ≤ n → 95 ∉ o → cln q o = true → countR p (hdec o) ≤ o.length + (if p && !q && headN (hdec o) then 2 else 0)
  | _, [], p, q, _, _, hc => by
    have hq : q = false := by simpa [cln] using hc
    subst hq
    show (if p then 2 else 0) ≤ 0 + _
    cases p <;> decide
  | 0, c :: r, _, _, h, _, _ => by simp at h
  | n + 1, c :: r, p, q, hn, hu, hc => by
    have hn : r.length ≤ n := by simpa using hn
    have hu2 : 95 ∉ r := fun h => hu (.tail _ h)
    have ih := fun o p q h1 => charge n o p q h1
    rcases hdec_split c r with ⟨x, y, r', rfl, rfl, hx, hy, e⟩ | ⟨e, hne⟩
    · rw [esc_cln hx hy] at hc
      simp only [List.length_cons] at hn
      have hu3 : 95 ∉ r' := fun h => hu2 (.tail _ (.tail _ h))
      rw [e]
      generalize 16 * hv x + hv y = v
      have i1 := ih r' (looseB v) false (by omega) hu3 hc
      rw [countR]
      simp only [List.length_cons, Bool.not_false, Bool.and_true] at i1 ⊢
      by_cases hl : (looseB v && headN (hdec r')) = true
      · rw [if_pos hl] at i1
        simp only [Bool.and_eq_true] at hl
        have hl1 := (loose_iff v).mp hl.1
        have hh := hl.2
        have he : escH (v :: hdec r') = false := by
          rw [← Bool.not_eq_true]
          intro h
          unfold escH at h
          simp only [Bool.and_eq_true] at h
          have h2 : isHex ((hdec r').getD 0 0) = true := h.1.2
          cases hd : hdec r' with
          | nil => rw [hd] at h2; exact absurd h2 (by decide)
          | cons a b =>
            rw [hd] at h2 hh
            have : a = 10 := by simpa [headN] using hh
            subst this
            exact absurd h2 (by show ¬ isHex 10 = true; decide)
        have h3 : ¬ (escH (v :: hdec r') || v == 95 || endB v || (v == 10 && p)) = true := by
          rw [he]
          simp only [Bool.false_or, Bool.or_eq_true, Bool.and_eq_true, beq_iff_eq]
          rw [end_iff, white_iff] at hl1
          rw [end_iff]
          omega
        rw [if_neg h3]
        omega
      · rw [if_neg hl] at i1
        split <;> omega
    · rw [e]
      have hc : (!endB c && !(c == 10 && q) && cln (looseB c) r) = true := hc
      simp only [Bool.and_eq_true, Bool.not_eq_true'] at hc
      obtain ⟨⟨hc1, hc2⟩, hc3⟩ := hc
      have i1 := ih r (looseB c) (looseB c) hn hu2 hc3
      rw [if_neg (by cases looseB c <;> simp)] at i1
      have h95 : (c == 95) = false := beq_false_of_ne fun h => hu (by rw [h]; exact .head _)
      rw [countR, hc1, h95]
      simp only [Bool.or_false, List.length_cons]
      by_cases he : escH (c :: hdec r) = true
      · have hc61 : c = 61 := by
          unfold escH at he
          simp only [Bool.and_eq_true, beq_iff_eq] at he
          exact he.1.1
        subst hc61
        have he1 : isHex ((hdec r).getD 0 0) = true ∧ isHex ((hdec r).getD 1 0) = true := by
          unfold escH at he
          simp only [Bool.and_eq_true] at he
          exact ⟨he.1.2, he.2⟩
        have key : countR true (hdec r) + 2 ≤ r.length := by
          cases r with
          | nil => exact absurd he1.1 (by show ¬ isHex 0 = true; decide)
          | cons a r1 =>
            rcases hdec_split a r1 with ⟨x, y, r2, rfl, rfl, hx, hy, e2⟩ | ⟨e2, hne2⟩
            · rw [e2] at he1 ⊢
              have hc3 : cln true (61 :: x :: y :: r2) = true := hc3
              rw [esc_cln hx hy] at hc3
              simp only [List.length_cons] at hn ⊢
              have i2 := ih r2 false false (by omega) (fun h => hu2 (.tail _ (.tail _ (.tail _ h)))) hc3
              rw [if_neg (by simp)] at i2
              rw [count_hex (v := 16 * hv x + hv y) he1.1]
              omega
            · rw [e2] at he1 ⊢
              have ha : isHex a = true := he1.1
              have hb : isHex ((hdec r1).getD 0 0) = true := he1.2
              have hc3 : cln true (a :: r1) = true := hc3
              rw [hex_cln ha] at hc3
              cases r1 with
              | nil => exact absurd hb (by show ¬ isHex 0 = true; decide)
              | cons b r2 =>
                rcases hdec_split b r2 with ⟨x, y, r3, rfl, rfl, hx, hy, e3⟩ | ⟨e3, hne3⟩
                · rw [esc_cln hx hy] at hc3
                  rw [e3] at hb ⊢
                  simp only [List.length_cons] at hn ⊢
                  have i2 := ih r3 false false (by omega) (fun h => hu2 (.tail _ (.tail _ (.tail _ (.tail _ h))))) hc3
                  rw [if_neg (by simp)] at i2
                  rw [count_hex ha, count_hex (v := 16 * hv x + hv y) hb]
                  omega
                · exfalso
                  rw [e3] at hb
                  have hb : isHex b = true := hb
                  have : escH (61 :: a :: b :: r2) = true := by
                    show (61 == 61 && isHex a && isHex b) = true
                    rw [ha, hb]; rfl
                  rw [this] at hne
                  exact absurd hne (by decide)
        have hll : looseB 61 = true := rfl
        rw [hll]
        split <;> omega
      · have he : escH (c :: hdec r) = false := by simpa using he
        rw [he]
        simp only [Bool.false_or]
        by_cases h2 : (c == 10 && p) = true
        · have h3 := h2
          simp only [Bool.and_eq_true] at h3
          have hq : q = false := by
            rw [h3.1] at hc2
            simpa using hc2
          rw [if_pos h2, if_pos]
          · omega
          · rw [h3.2, hq]
            exact h3.1
        · rw [if_neg h2]
          omega
theorem hv_lt {x : Nat} (h : isHex x = true) : hv x < 16 := by
  rw [hex_iff] at h
  unfold hv
  split
  · omega
  · split <;> omega
theorem far_lit : ∀ (o : List Nat) (c : Nat), (hdec o).getLast? = some c → 255 < c → o.getLast? = some c := by
  intro o
  fun_induction hdec o with
  | case1 => intro c h; exact nomatch h
  | case2 x y r h ih =>
    simp only [Bool.and_eq_true] at h
    have h1 := hv_lt h.1
    have h2 := hv_lt h.2
    intro c hc hl
    cases r with
    | nil =>
      have : 16 * hv x + hv y = c := by simpa [hdec] using hc
      omega
    | cons z r =>
      have hne : hdec (z :: r) ≠ [] := fun e => by
        have := hdec_pos (l := z :: r) (by simp)
        rw [e] at this
        exact Nat.lt_irrefl _ this
      have hc2 : (hdec (z :: r)).getLast? = some c := by
        rw [← hc]
        exact (getLast_app (a := [16 * hv x + hv y]) hne).symm
      rw [← ih c hc2 hl]
      simp
  | case3 x y r h ih =>
    intro c hc hl
    have hne : hdec (x :: y :: r) ≠ [] := fun e => by
      have := hdec_pos (l := x :: y :: r) (by simp)
      rw [e] at this
      exact Nat.lt_irrefl _ this
    have hc2 : (hdec (x :: y :: r)).getLast? = some c := by
      rw [← hc]
      exact (getLast_app (a := [61]) hne).symm
    rw [← ih c hc2 hl]
    simp
  | case4 d r hx ih =>
    intro c hc hl
    cases r with
    | nil => exact hc
    | cons z r =>
      have hne : hdec (z :: r) ≠ [] := fun e => by
        have := hdec_pos (l := z :: r) (by simp)
        rw [e] at this
        exact Nat.lt_irrefl _ this
      have hc2 : (hdec (z :: r)).getLast? = some c := by
        rw [← hc]
        exact (getLast_app (a := [d]) hne).symm
      rw [← ih c hc2 hl]
      simp
theorem far_split {t : List Nat} (h : farL t = true) : ∃ m c, t = m ++ [c] ∧ 255 < c ∧ whiteB c = true := by
  unfold farL at h
  cases hg : t.getLast? with
  | none => rw [hg] at h; exact absurd h (by decide)
  | some c =>
    rw [hg] at h
    simp only [Bool.and_eq_true, decide_eq_true_eq] at h
    obtain ⟨m, hm⟩ := List.getLast?_eq_some_iff.mp hg
    exact ⟨m, c, hm, h.1, h.2⟩
theorem far_isLoose {c : Nat} (h1 : 255 < c) (h2 : whiteB c = true) : looseB c = true := by
  rw [loose_iff, end_iff]
  have := (white_iff c).mp h2
  refine .inr ⟨by omega, by omega, h2⟩
theorem far_not {o : List Nat} (h : cln false o = true) : farL (hdec o) = false := by
  rw [← Bool.not_eq_true]
  intro hf
  obtain ⟨m, c, e, h1, h2⟩ := far_split hf
  have hl : (hdec o).getLast? = some c := by rw [e]; simp
  obtain ⟨s, hs⟩ := List.getLast?_eq_some_iff.mp (far_lit o c hl h1)
  rw [hs, cln_last (far_isLoose h1 h2)] at h
  exact absurd h (by decide)
/-! ## decode keeps what the law's own price list knows -/
theorem go_mem : ∀ (l : List Nat) (k : Nat), k ∈ lineGo l → k ∈ l ∨ k < 256 := by
  intro l
  fun_induction lineGo l with
  | case1 => intro k hk; rw [List.mem_singleton.mp hk]; exact .inr (by decide)
  | case2 => intro k hk; exact nomatch hk
  | case3 x y r h ih =>
    simp only [Bool.and_eq_true] at h
    have h1 := hv_lt h.1
    have h2 := hv_lt h.2
    intro k hk
    rcases List.mem_cons.mp hk with e | hk
    · exact .inr (by omega)
    · exact (ih k hk).imp (fun q => .tail _ (.tail _ (.tail _ q))) id
  | case4 x y r h ih =>
    intro k hk
    rcases List.mem_cons.mp hk with e | hk
    · exact .inr (by omega)
    · exact (ih k hk).imp (fun q => .tail _ q) id
  | case5 c r h1 h2 ih =>
    intro k hk
    rcases List.mem_cons.mp hk with e | hk
    · exact .inl (by rw [e]; exact .head _)
    · exact (ih k hk).imp (fun q => .tail _ q) id
theorem spl_mem : ∀ (n : Nat) (r cur : List Nat), r.length ≤ n → ∀ l ∈ spl cur r, ∀ k ∈ l, k ∈ cur ∨ k ∈ r
  | _, [], cur, _ => by
    intro l hl k hk
    rw [spl.eq_1] at hl
    split at hl
    · exact nomatch hl
    · rw [List.mem_singleton.mp hl] at hk; exact .inl hk
  | 0, c :: r, _, h => by simp at h
  | n + 1, c :: r, cur, hn => by
    have hn : r.length ≤ n := by simpa using hn
    intro l hl k hk
    by_cases hb : brk c = true
    · by_cases hcr : c = 13 ∧ r.head? = some 10
      · obtain ⟨rfl, hr⟩ := hcr
        cases r with
        | nil => exact nomatch hr
        | cons d r =>
          have hd : d = 10 := by simpa using hr
          subst hd
          rw [spl.eq_2] at hl
          rcases List.mem_cons.mp hl with e | hl
          · rw [e] at hk; exact .inl hk
          · rcases spl_mem n r [] (by simp at hn; omega) l hl k hk with h | h
            · exact nomatch h
            · exact .inr (.tail _ (.tail _ h))
      · rw [spl_brk hb hcr] at hl
        rcases List.mem_cons.mp hl with e | hl
        · rw [e] at hk; exact .inl hk
        · rcases spl_mem n r [] hn l hl k hk with h | h
          · exact nomatch h
          · exact .inr (.tail _ h)
    · rw [spl_no (by simpa using hb)] at hl
      rcases spl_mem n r (cur ++ [c]) hn l hl k hk with h | h
      · rcases List.mem_append.mp h with h | h
        · exact .inl h
        · rw [List.mem_singleton.mp h]; exact .inr (.head _)
      · exact .inr (.tail _ h)
theorem drl_mem {l : List Nat} {k : Nat} (h : k ∈ drl [] l) : k ∈ l ∨ k < 256 := by
  unfold drl at h
  obtain ⟨a, ha, hk⟩ := List.mem_flatMap.mp h
  rcases go_mem _ k hk with h1 | h1
  · obtain ⟨w, e, -⟩ := rst_cut a
    have h2 : k ∈ a := by rw [e]; exact List.mem_append_left _ h1
    rcases spl_mem l.length l [] (Nat.le_refl _) a ha k h2 with h3 | h3
    · exact nomatch h3
    · exact .inl h3
  · exact .inr h1
theorem decT_good {l : List Nat} (h : Good l) : Good (decT l) := by
  intro k hk
  have : k ∈ drl [] l := by
    unfold decT at hk
    split at hk
    · exact List.dropLast_subset _ hk
    · exact hk
  rcases drl_mem this with h1 | h1
  · exact h k h1
  · exact good_256 h1
/-! ## the law's statements -/
theorem decS_cps (x : Str) : (decS x).cps.toList = decT x.cps.toList := decL_eq x
theorem hdrS_cps {x : Str} (h : 95 ∉ x.cps.toList) : (hdrS x).cps.toList = hdec x.cps.toList := by
  show hdec (x.cps.toList.map (swap1 95 32)) = _
  rw [swap_free _ h]
def Fine (t : Str) : Prop := (farL t.cps.toList = true → decS (spellS t) ≠ t ∧ decS (spellS t ++ Str.ofString "=") ≠ hdrS (spellS t ++ Str.ofString "=")) ∧ (farL t.cps.toList = false → decS (spellS t) = t ∧ hdrS (spellS t) = t ∧ (spellS t).length = countL t.cps.toList)
theorem eq_cps : (Str.ofString "=").cps.toList = [61] := by decide +kernel
theorem fine_of {t : Str} (h : Good t.cps.toList) : Fine t := by
  have hs : (spellS t).cps.toList = spellR false t.cps.toList := by rw [spellS_cps, spell_eq]
  have hu : 95 ∉ (spellS t).cps.toList := by rw [hs]; exact spell_und _ _
  have hg : Good (spellS t).cps.toList := by rw [hs]; exact spell_good _ _ h
  have hd : hdec (spellS t).cps.toList = t.cps.toList := by rw [hs]; exact spell_hdec _ _
  refine ⟨fun hf => ?_, fun hf => ?_⟩
  · obtain ⟨m, c, e, h1, h2⟩ := far_split hf
    obtain ⟨s, es⟩ := spell_far h1 h2 m false
    refine ⟨fun e9 => ?_, fun e9 => ?_⟩
    · have e9 := congrArg (fun z => z.cps.toList) e9
      simp only [decS_cps] at e9
      rw [← hd] at e9
      have := (decT_iff hg).mp (by rw [hd] at e9 ⊢; exact e9)
      rw [hs, e, es, cln_last (far_isLoose h1 h2)] at this
      exact absurd this (by decide)
    · have e9 := congrArg (fun z => z.cps.toList) e9
      have hu2 : 95 ∉ (spellS t ++ Str.ofString "=").cps.toList := by
        rw [cat_cps, eq_cps]
        intro h9
        rcases List.mem_append.mp h9 with h9 | h9
        · exact hu h9
        · exact absurd (List.mem_singleton.mp h9) (by decide)
      have hg2 : Good (spellS t ++ Str.ofString "=").cps.toList := by
        rw [cat_cps, eq_cps]
        exact hg.append (by unfold Good; decide)
      simp only [decS_cps] at e9
      rw [hdrS_cps hu2] at e9
      have := (decT_iff hg2).mp e9
      rw [cat_cps, eq_cps, cln_last (by decide)] at this
      exact absurd this (by decide)
  · have hc : cln false (spellS t).cps.toList = true := by
      rw [hs]
      exact spell_clean _ _ _ (fun h => h) (fun _ => rfl) hf
    refine ⟨str_ext ?_, str_ext ?_, ?_⟩
    · rw [decS_cps, decT_clean hg hc, hd]
    · rw [hdrS_cps hu, hd]
    · rw [← cps_length, hs, count_eq]
      exact spell_count _ _ (fun _ => rfl) hf
theorem good_dec {o : Str} (h : Good o.cps.toList) : Good (decS o).cps.toList := by
  rw [decS_cps]
  exact decT_good h
theorem no_first {o : Str} (h : Good o.cps.toList) (h2 : 95 ∉ o.cps.toList) (e : (decS o == hdrS o) = true) : farL (decS o).cps.toList = false ∧ countL (decS o).cps.toList ≤ o.length := by
  have e := congrArg (fun z => z.cps.toList) (eq_of_beq e)
  simp only [decS_cps] at e
  rw [hdrS_cps h2] at e
  have hc := (decT_iff h).mp e
  rw [decS_cps, e]
  refine ⟨far_not hc, ?_⟩
  rw [count_eq, ← cps_length]
  have := charge o.cps.toList.length o.cps.toList false false (Nat.le_refl _) h2 hc
  rwa [if_neg (by simp)] at this
theorem spell_ge (t : Str) : t.length ≤ (spellS t).length := by
  rw [← cps_length, ← cps_length, spellS_cps, spell_eq]
  exact spell_len _ _
theorem rep_under (z : Str) : 95 ∉ (Txt.replace z (Str.ofString "_") (Str.ofString "k")).cps.toList := by
  rw [under_cps, kay_cps, replace_map]
  intro h
  obtain ⟨a, _, ha⟩ := List.mem_map.mp h
  unfold swap1 at ha
  split at ha <;> omega
theorem rep_good {z : Str} (h : Good z.cps.toList) : Good (Txt.replace z (Str.ofString "_") (Str.ofString "k")).cps.toList := by
  rw [under_cps, kay_cps, replace_map]
  intro k hk
  obtain ⟨a, ha, e⟩ := List.mem_map.mp hk
  unfold swap1 at e
  split at e
  · omega
  · subst e; exact h _ ha
end Mine
end PartF5
section PartJ
open PySem PySem.W PyProof.Rows PySem.Spec PySem.Calls
set_option maxRecDepth 100000
set_option maxHeartbeats 8000000
set_option linter.unusedSimpArgs false
namespace Mine
local macro_rules | `(tactic| walk_at "exec For Name Tuple cons nil") => `(tactic| (k_here; (rename Fr _ _ _ _ => lF'); (with_unfolding_all refine' For_invVF lF' ?k1 ?k2 ?_; (case k1 => exact rfl); (case k2 => exact rfl); k_whole)))
theorem bne_no {a b : Str} (h : a = b) (e : (a != b) = true) : False := by
  rw [h] at e
  simp at e
theorem two_of {a b v : Value} {i : Nat} {P : Value → Prop} (h : [a, b][i]? = some v) (ha : P a) (hb : P b) : P v := by
  match i, h with
  | 0, h => rw [← Option.some.inj h]; exact ha
  | 1, h => rw [← Option.some.inj h]; exact hb
theorem cat_len (a : Str) : (a ++ Str.ofString "=").length = a.length + 1 := by
  rw [← cps_length, ← cps_length, cat_cps, eq_cps, List.length_append]; rfl
theorem law_holds : PySem.Challenge.rw_dm5002_02.Holds := by
  refine hd ?_
  k_go0
  repeat' ((fail_if_success (with_reducible show wpAny _ _ (PySem.exec (PySem.Stmt.While _ _ _ _) _) _ _ _)); (fail_if_success (with_reducible show wpAny _ _ (PySem.pyIter _) _ _ _)); (fail_if_success (with_reducible show wpAny _ _ (PySem.call (PySem.Value.ref _) _ _) _ _ _)); (fail_if_success (with_reducible show InvEndN _ _ _ _ _ _ _)); (fail_if_success (with_reducible show KswEnd _ _ _ _ _ _ _ _ _ _ _ _)); (first | (k_unfold; (try dsimp only)) | (k_end; wrow_close) | walk1 | (dsimp only; walk1) | (leave1; try dsimp only) | fail "no step"))
  (rename Fr _ _ _ _ => F9); (rename News _ _ _ _ => N9); (rename IntsAre _ _ => hi9)
  (rename Below _ _ _ _ => Bz); (rename Frag.In _ _ => Xz); (rename Top _ _ _ _ _ _ => Tz)
  have hrl : recursionLimit = 1000 := rfl
  have hcl : cLine = 9900 := rfl
  refine' text_ctr _ _ _ _ _ _ _ _ hi9 (by omega) _ _ _ _ _ _ _ _ _ _ _ _ _ _ _ _ _ _ Bz F9 Xz N9 Tz rfl (.head _) ?_ ?_ ?_
  · ((try simp only [depth_under_make, depth_under_kw, depth_in1, depth_deeper, depth_caller]); (try dsimp only [ktrTop]); omega)
  · ((try simp only [units_in1, units_deeper, Around.mark_units, units_caller]); (try dsimp only [ktrTop]); omega)
  intro y t h' tk' hyl hyg F9 N9
  (try dsimp only)
  (try k_fold)
  repeat' ((fail_if_success (with_reducible show wpAny _ _ (PySem.exec (PySem.Stmt.While _ _ _ _) _) _ _ _)); (fail_if_success (with_reducible show wpAny _ _ (PySem.pyIter _) _ _ _)); (fail_if_success (with_reducible show wpAny _ _ (PySem.call (PySem.Value.ref _) _ _) _ _ _)); (fail_if_success (with_reducible show InvEndN _ _ _ _ _ _ _)); (fail_if_success (with_reducible show KswEnd _ _ _ _ _ _ _ _ _ _ _ _)); (first | (k_unfold; (try dsimp only)) | (k_end; wrow_close) | (walk1; (all_goals (try (conv => arg 6; dsimp only)))) | (dsimp only; walk1) | (leave1; try dsimp only) | fail "no step"))
  all_goals ((rename Fr _ _ _ _ => F8); (rename News _ _ _ _ => N8); (rename IntsAre _ _ => hi8))
  all_goals refine wpAny_with_toks (n := 1) (by (try dsimp only); omega) ?_
  all_goals refine' text_ctr _ _ _ _ _ _ _ _ hi8 (by omega) _ _ _ _ _ _ _ _ _ _ _ _ _ _ _ _ _ _ Bz F8 Xz N8 Tz rfl (.head _) (by ((try simp only [depth_under_make, depth_under_kw, depth_in1, depth_deeper, depth_caller]); (try dsimp only [ktrTop]); omega)) (by ((try simp only [units_in1, units_deeper, Around.mark_units, units_caller]); (try dsimp only [ktrTop]); omega)) ?_
  all_goals (intro z tz hz tkz hzl hzg F7 N7 ht7; (try dsimp only at ht7); (try dsimp only); (try k_fold))
  repeat' ((fail_if_success (with_reducible show wpAny _ _ (PySem.exec (PySem.Stmt.While _ _ _ _) _) _ _ _)); (fail_if_success (with_reducible show wpAny _ _ (PySem.pyIter _) _ _ _)); (fail_if_success (with_reducible show wpAny _ _ (PySem.call (PySem.Value.ref _) _ _) _ _ _)); (fail_if_success (with_reducible show InvEndN _ _ _ _ _ _ _)); (fail_if_success (with_reducible show KswEnd _ _ _ _ _ _ _ _ _ _ _ _)); (first | (k_unfold; (try dsimp only)) | (k_end; wrow_close) | (walk1; (all_goals (try (conv => arg 6; dsimp only)))) | (dsimp only; walk1) | (leave1; try dsimp only) | fail "no step"))
  all_goals (refine SC.replaceW (by (show @Ne Nat _ _); omega) (by (show @Ne Nat _ _); omega) (by (show @Ne Nat _ _); omega) (by decide +kernel) (by omega) (by decide +kernel) ?_; intro t6 k6; (try dsimp only); (try k_fold))
  all_goals (have hol : (Txt.replace z (Str.ofString "_") (Str.ofString "k")).length ≤ 48 := by rw [replace_len1]; exact hzl)
  all_goals (have hog := rep_good hzg; have hou := rep_under z)
  all_goals (generalize Txt.replace z (Str.ofString "_") (Str.ofString "k") = o at *)
  all_goals (have hal := decS_len hol; have hsy := spellS_len hyl; have hsa := spellS_len hal)
  repeat' (first | ((with_reducible show wpAny _ _ (PySem.call (PySem.Value.ref 51) [PySem.Value.str _ _]) _ _ _); (rename Fr _ _ _ _ => FZ); (rename News _ _ _ _ => NZ); refine' decode_ctr _ _ _ _ _ _ (by omega) _ _ _ _ _ _ _ _ _ _ _ _ _ _ _ _ _ _ Bz FZ Xz NZ Tz rfl (by ((try simp only [depth_under_make, depth_under_kw, depth_in1, depth_deeper, depth_caller]); (try dsimp only [ktrTop]); omega)) (by ((try simp only [units_in1, units_deeper, Around.mark_units, units_caller]); (try dsimp only [ktrTop]); omega)) ?_; intro _ _ _ _ _; (try dsimp only); (try k_fold)) | ((with_reducible show wpAny _ _ (PySem.call (PySem.Value.ref 65) [PySem.Value.str _ _]) _ _ _); (rename Fr _ _ _ _ => FZ); (rename News _ _ _ _ => NZ); refine' header_ctr _ _ _ _ _ _ (by omega) _ _ _ _ _ _ _ _ _ _ _ _ _ _ _ _ _ _ Bz FZ Xz NZ Tz rfl (by ((try simp only [depth_under_make, depth_under_kw, depth_in1, depth_deeper, depth_caller]); (try dsimp only [ktrTop]); omega)) (by ((try simp only [units_in1, units_deeper, Around.mark_units, units_caller]); (try dsimp only [ktrTop]); omega)) ?_; intro _ _ _ _ _; (try dsimp only); (try k_fold)) | ((with_reducible show wpAny _ _ (PySem.call (PySem.Value.ref 95) [PySem.Value.str _ _]) _ _ _); (rename Fr _ _ _ _ => FZ); (rename News _ _ _ _ => NZ); refine' far_ctr _ _ _ _ _ _ (by omega) _ _ _ _ _ _ _ _ _ _ _ _ _ _ _ _ _ _ Bz FZ Xz NZ Tz rfl (by ((try simp only [depth_under_make, depth_under_kw, depth_in1, depth_deeper, depth_caller]); (try dsimp only [ktrTop]); omega)) (by ((try simp only [units_in1, units_deeper, Around.mark_units, units_caller]); (try dsimp only [ktrTop]); omega)) ?_; intro _ _ _ _ _; (try dsimp only); (try k_fold)) | ((with_reducible show wpAny _ _ (PySem.call (PySem.Value.ref 123) [PySem.Value.str _ _]) _ _ _); (rename Fr _ _ _ _ => FZ); (rename News _ _ _ _ => NZ); refine' count_ctr _ _ _ _ _ _ (by omega) _ _ _ _ _ _ _ _ _ _ _ _ _ _ _ _ _ _ Bz FZ Xz NZ Tz rfl (by ((try simp only [depth_under_make, depth_under_kw, depth_in1, depth_deeper, depth_caller]); (try dsimp only [ktrTop]); omega)) (by ((try simp only [units_in1, units_deeper, Around.mark_units, units_caller]); (try dsimp only [ktrTop]); omega)) ?_; intro _ _ _ _ _; (try dsimp only); (try k_fold)) | ((with_reducible show wpAny _ _ (PySem.call (PySem.Value.ref 116) [PySem.Value.str _ _]) _ _ _); (rename Fr _ _ _ _ => FZ); (rename News _ _ _ _ => NZ); refine' spell_ctr _ _ _ _ _ _ (by omega) _ _ _ _ _ _ _ _ _ _ _ _ _ _ _ _ _ _ Bz FZ Xz NZ Tz rfl (by ((try simp only [depth_under_make, depth_under_kw, depth_in1, depth_deeper, depth_caller]); (try dsimp only [ktrTop]); omega)) (by ((try simp only [units_in1, units_deeper, Around.mark_units, units_caller]); (try dsimp only [ktrTop]); omega)) ?_; intro _ _ _ _ _; (try dsimp only); (try k_fold)) | ((fail_if_success (with_reducible show wpAny _ _ (PySem.exec (PySem.Stmt.While _ _ _ _) _) _ _ _)); (fail_if_success (with_reducible show wpAny _ _ (PySem.pyIter _) _ _ _)); (fail_if_success (with_reducible show wpAny _ _ (PySem.call (PySem.Value.ref _) _ _) _ _ _)); (fail_if_success (with_reducible show GoodW _ _ _ _ _ _ _)); (fail_if_success (with_reducible show InvEndN _ _ _ _ _ _ _)); (fail_if_success (with_reducible show KswEnd _ _ _ _ _ _ _ _ _ _ _ _)); (first | (k_unfold; (try dsimp only)) | (k_end; wrow_close) | (walk1; (all_goals (try (conv => arg 6; dsimp only)))) | (dsimp only; walk1) | (leave1; try dsimp only) | fail "no step")))
  all_goals first
    | (exfalso; (have e9 : (decS o == hdrS o) = true := by with_reducible assumption); (have f9 := no_first hog hou e9); (have g9 : farL (decS o).cps.toList = true := by with_reducible assumption); rw [f9.1] at g9; exact Bool.false_ne_true g9)
    | (exfalso; (have e9 : (decS o == hdrS o) = true := by with_reducible assumption); (have f9 := no_first hog hou e9); omega)
    | skip
  all_goals (
    (rename Fr _ _ _ _ => FL); (rename News _ _ _ _ => NL); (first | (rename (_ < _ ∧ _ < _ ∧ _ < _) => hlt) | (rename (_ < _ ∧ _ < _) => hlt))
    have NLt := news_tail NL
    have htl := tup_of (vs := [_, _]) NL
    refine kt_plain [Str.ofString "spelling"] rfl htl ?_ ?_ FL NLt ?_ ?_
    · exact (NL _ (.head _)).2.1
    · first
      | exact List.forall_mem_cons.mpr ⟨Nat.ne_of_lt hlt.1, List.forall_mem_cons.mpr ⟨Nat.ne_of_lt hlt.2, List.forall_mem_nil _⟩⟩
      | exact List.forall_mem_cons.mpr ⟨Nat.ne_of_lt hlt.1, List.forall_mem_cons.mpr ⟨Nat.ne_of_lt hlt.2.1, List.forall_mem_cons.mpr ⟨Nat.ne_of_lt hlt.2.2, List.forall_mem_nil _⟩⟩⟩
    · intro i9 v9 u9 h9 k9 own9 hv9 FT9 NT9
      obtain ⟨x9, t9, rfl, hxl9, hxg9⟩ : ∃ (x9 : Str) (t9 : Tok), v9 = .str x9 t9 ∧ x9.length ≤ 49 ∧ Good x9.cps.toList := two_of (P := fun v => ∃ (x9 : Str) (t9 : Tok), v = .str x9 t9 ∧ x9.length ≤ 49 ∧ Good x9.cps.toList) hv9 ⟨_, _, rfl, by omega, hyg⟩ ⟨_, _, rfl, hal, good_dec hog⟩
      have hfine := fine_of hxg9
      have hsx := spellS_len hxl9
      have hsx1 := cat_len (spellS x9)
      (try dsimp only at FT9)
      (try k_fold)
      repeat' (first | ((with_reducible show wpAny _ _ (PySem.call (PySem.Value.ref 51) [PySem.Value.str _ _]) _ _ _); (rename Fr _ _ _ _ => FZ); (rename News _ _ _ _ => NZ); refine' decode_ctr _ _ _ _ _ _ (by omega) _ _ _ _ _ _ _ _ _ _ _ _ _ _ _ _ _ _ Bz FZ Xz NZ Tz rfl (by ((try simp only [depth_under_make, depth_under_kw, depth_in1, depth_deeper, depth_caller]); (try dsimp only [ktrTop]); omega)) (by ((try simp only [units_in1, units_deeper, Around.mark_units, units_caller]); (try dsimp only [ktrTop]); omega)) ?_; intro _ _ _ _ _; (try dsimp only); (try k_fold)) | ((with_reducible show wpAny _ _ (PySem.call (PySem.Value.ref 65) [PySem.Value.str _ _]) _ _ _); (rename Fr _ _ _ _ => FZ); (rename News _ _ _ _ => NZ); refine' header_ctr _ _ _ _ _ _ (by omega) _ _ _ _ _ _ _ _ _ _ _ _ _ _ _ _ _ _ Bz FZ Xz NZ Tz rfl (by ((try simp only [depth_under_make, depth_under_kw, depth_in1, depth_deeper, depth_caller]); (try dsimp only [ktrTop]); omega)) (by ((try simp only [units_in1, units_deeper, Around.mark_units, units_caller]); (try dsimp only [ktrTop]); omega)) ?_; intro _ _ _ _ _; (try dsimp only); (try k_fold)) | ((with_reducible show wpAny _ _ (PySem.call (PySem.Value.ref 95) [PySem.Value.str _ _]) _ _ _); (rename Fr _ _ _ _ => FZ); (rename News _ _ _ _ => NZ); refine' far_ctr _ _ _ _ _ _ (by omega) _ _ _ _ _ _ _ _ _ _ _ _ _ _ _ _ _ _ Bz FZ Xz NZ Tz rfl (by ((try simp only [depth_under_make, depth_under_kw, depth_in1, depth_deeper, depth_caller]); (try dsimp only [ktrTop]); omega)) (by ((try simp only [units_in1, units_deeper, Around.mark_units, units_caller]); (try dsimp only [ktrTop]); omega)) ?_; intro _ _ _ _ _; (try dsimp only); (try k_fold)) | ((with_reducible show wpAny _ _ (PySem.call (PySem.Value.ref 123) [PySem.Value.str _ _]) _ _ _); (rename Fr _ _ _ _ => FZ); (rename News _ _ _ _ => NZ); refine' count_ctr _ _ _ _ _ _ (by omega) _ _ _ _ _ _ _ _ _ _ _ _ _ _ _ _ _ _ Bz FZ Xz NZ Tz rfl (by ((try simp only [depth_under_make, depth_under_kw, depth_in1, depth_deeper, depth_caller]); (try dsimp only [ktrTop]); omega)) (by ((try simp only [units_in1, units_deeper, Around.mark_units, units_caller]); (try dsimp only [ktrTop]); omega)) ?_; intro _ _ _ _ _; (try dsimp only); (try k_fold)) | ((with_reducible show wpAny _ _ (PySem.call (PySem.Value.ref 116) [PySem.Value.str _ _]) _ _ _); (rename Fr _ _ _ _ => FZ); (rename News _ _ _ _ => NZ); refine' spell_ctr _ _ _ _ _ _ (by omega) _ _ _ _ _ _ _ _ _ _ _ _ _ _ _ _ _ _ Bz FZ Xz NZ Tz rfl (by ((try simp only [depth_under_make, depth_under_kw, depth_in1, depth_deeper, depth_caller]); (try dsimp only [ktrTop]); omega)) (by ((try simp only [units_in1, units_deeper, Around.mark_units, units_caller]); (try dsimp only [ktrTop]); omega)) ?_; intro _ _ _ _ _; (try dsimp only); (try k_fold)) | ((fail_if_success (with_reducible show wpAny _ _ (PySem.exec (PySem.Stmt.While _ _ _ _) _) _ _ _)); (fail_if_success (with_reducible show wpAny _ _ (PySem.pyIter _) _ _ _)); (fail_if_success (with_reducible show wpAny _ _ (PySem.call (PySem.Value.ref _) _ _) _ _ _)); (fail_if_success (with_reducible show GoodW _ _ _ _ _ _ _)); (fail_if_success (with_reducible show InvEndN _ _ _ _ _ _ _)); (fail_if_success (with_reducible show KswEnd _ _ _ _ _ _ _ _ _ _ _ _)); (first | (k_unfold; (try dsimp only)) | (k_end; wrow_close) | (walk1; (all_goals (try (conv => arg 6; dsimp only)))) | (dsimp only; walk1) | (leave1; try dsimp only) | fail "no step")))
      all_goals first
        | (exfalso; (have hf : farL x9.cps.toList = true := by with_reducible assumption); exact (hfine.1 hf).1 (eq_of_beq (by with_reducible assumption)))
        | (exfalso; (have hf : farL x9.cps.toList = true := by with_reducible assumption); exact (hfine.1 hf).2 (eq_of_beq (by with_reducible assumption)))
        | (exfalso; (have hf : farL x9.cps.toList = false := by with_reducible assumption); (have e9 : (decS (spellS x9) != x9) = true := by with_reducible assumption); exact bne_no (hfine.2 hf).1 e9)
        | (exfalso; (have hf : farL x9.cps.toList = false := by with_reducible assumption); (have e9 : (hdrS (spellS x9) != x9) = true := by with_reducible assumption); exact bne_no (hfine.2 hf).2.1 e9)
        | ((with_reducible show InvEndN _ _ _ _ _ _ _)
           (rename Fr _ _ _ _ => F9x); (rename News _ _ _ _ => N9x)
           refine' kv_end (σ := Unit) () F9x N9x (fun p hp => List.mem_append_left _ hp) (fun p hp => List.mem_append_right _ hp) rfl (List.forall_mem_nil _) ?_ trivial
           (intro z9 h19 h29 h39; (simp only [List.contains_cons, List.contains_nil, Bool.or_false, beq_eq_false_iff_ne, ne_eq] at h39); (simp [kstB, h19, h39]; done)))
        | (exfalso; (have hf : farL x9.cps.toList = false := by with_reducible assumption); (have q9 := (hfine.2 hf).2.2); omega)
    · intro u9 h9 k9 FT9 NT9
      have hge := spell_ge y
      (try dsimp only at FT9)
      (try k_fold)
      repeat' (first | ((with_reducible show wpAny _ _ (PySem.call (PySem.Value.ref 51) [PySem.Value.str _ _]) _ _ _); (rename Fr _ _ _ _ => FZ); (rename News _ _ _ _ => NZ); refine' decode_ctr _ _ _ _ _ _ (by omega) _ _ _ _ _ _ _ _ _ _ _ _ _ _ _ _ _ _ Bz FZ Xz NZ Tz rfl (by ((try simp only [depth_under_make, depth_under_kw, depth_in1, depth_deeper, depth_caller]); (try dsimp only [ktrTop]); omega)) (by ((try simp only [units_in1, units_deeper, Around.mark_units, units_caller]); (try dsimp only [ktrTop]); omega)) ?_; intro _ _ _ _ _; (try dsimp only); (try k_fold)) | ((with_reducible show wpAny _ _ (PySem.call (PySem.Value.ref 65) [PySem.Value.str _ _]) _ _ _); (rename Fr _ _ _ _ => FZ); (rename News _ _ _ _ => NZ); refine' header_ctr _ _ _ _ _ _ (by omega) _ _ _ _ _ _ _ _ _ _ _ _ _ _ _ _ _ _ Bz FZ Xz NZ Tz rfl (by ((try simp only [depth_under_make, depth_under_kw, depth_in1, depth_deeper, depth_caller]); (try dsimp only [ktrTop]); omega)) (by ((try simp only [units_in1, units_deeper, Around.mark_units, units_caller]); (try dsimp only [ktrTop]); omega)) ?_; intro _ _ _ _ _; (try dsimp only); (try k_fold)) | ((with_reducible show wpAny _ _ (PySem.call (PySem.Value.ref 95) [PySem.Value.str _ _]) _ _ _); (rename Fr _ _ _ _ => FZ); (rename News _ _ _ _ => NZ); refine' far_ctr _ _ _ _ _ _ (by omega) _ _ _ _ _ _ _ _ _ _ _ _ _ _ _ _ _ _ Bz FZ Xz NZ Tz rfl (by ((try simp only [depth_under_make, depth_under_kw, depth_in1, depth_deeper, depth_caller]); (try dsimp only [ktrTop]); omega)) (by ((try simp only [units_in1, units_deeper, Around.mark_units, units_caller]); (try dsimp only [ktrTop]); omega)) ?_; intro _ _ _ _ _; (try dsimp only); (try k_fold)) | ((with_reducible show wpAny _ _ (PySem.call (PySem.Value.ref 123) [PySem.Value.str _ _]) _ _ _); (rename Fr _ _ _ _ => FZ); (rename News _ _ _ _ => NZ); refine' count_ctr _ _ _ _ _ _ (by omega) _ _ _ _ _ _ _ _ _ _ _ _ _ _ _ _ _ _ Bz FZ Xz NZ Tz rfl (by ((try simp only [depth_under_make, depth_under_kw, depth_in1, depth_deeper, depth_caller]); (try dsimp only [ktrTop]); omega)) (by ((try simp only [units_in1, units_deeper, Around.mark_units, units_caller]); (try dsimp only [ktrTop]); omega)) ?_; intro _ _ _ _ _; (try dsimp only); (try k_fold)) | ((with_reducible show wpAny _ _ (PySem.call (PySem.Value.ref 116) [PySem.Value.str _ _]) _ _ _); (rename Fr _ _ _ _ => FZ); (rename News _ _ _ _ => NZ); refine' spell_ctr _ _ _ _ _ _ (by omega) _ _ _ _ _ _ _ _ _ _ _ _ _ _ _ _ _ _ Bz FZ Xz NZ Tz rfl (by ((try simp only [depth_under_make, depth_under_kw, depth_in1, depth_deeper, depth_caller]); (try dsimp only [ktrTop]); omega)) (by ((try simp only [units_in1, units_deeper, Around.mark_units, units_caller]); (try dsimp only [ktrTop]); omega)) ?_; intro _ _ _ _ _; (try dsimp only); (try k_fold)) | ((fail_if_success (with_reducible show wpAny _ _ (PySem.exec (PySem.Stmt.While _ _ _ _) _) _ _ _)); (fail_if_success (with_reducible show wpAny _ _ (PySem.pyIter _) _ _ _)); (fail_if_success (with_reducible show wpAny _ _ (PySem.call (PySem.Value.ref _) _ _) _ _ _)); (fail_if_success (with_reducible show InvEndN _ _ _ _ _ _ _)); (fail_if_success (with_reducible show KswEnd _ _ _ _ _ _ _ _ _ _ _ _)); (first | (k_unfold; (try dsimp only)) | (k_end; wrow_close) | (walk1; (all_goals (try (conv => arg 6; dsimp only)))) | (dsimp only; walk1) | (leave1; try dsimp only) | fail "no step"))))
end Mine
end PartJ
set_option maxRecDepth 100000 in
set_option maxHeartbeats 8000000 in
theorem PySem.Challenge.cw_dm5002_02_holds : PySem.Challenge.rw_dm5002_02.Holds := by
  exact Mine.law_holds
