import PyProof.Rows.All
import Wide.All
import OpenK.AllK
import Wide.FinOn
import PySem.Challenge.RW_ey0006_01
set_option Elab.async false
set_option rowWalk.seconds 0
section
open PySem PySem.W PyProof.Rows
set_option maxRecDepth 100000
set_option maxHeartbeats 8000000
namespace Mine
open_top hd for PySem.Challenge.rw_ey0006_01
end Mine
end
section
open PySem PySem.W PyProof.Rows
set_option maxRecDepth 100000
set_option maxHeartbeats 8000000
namespace Mine
open PySem.Calls PyProof.V PySem.Spec

/-- what a call of one of the text's functions does: nothing that stood is changed, the result is told by Out -/
def Tell (w : World) (mg mb : Str → Option Value) (mean : ExcName → Option Value) (bd bu : Nat) (f : Addr) (args : List Value) (Pre : Heap → List (Addr × Obj) → Prop) (Out : List (Addr × Obj) → Value → Prop) : Prop :=
  ∀ (dp un : Nat) (gd : Option (List Code)) (cn : Str) (cs : Scope) (a : Addr) (ccd : Value) (cl : List (Str × Addr)) (outer : List Env) (A₀ : Around) (base h₀ : Heap) (L : Addr) (m : Str → Option Value) (news : List (Addr × Obj)) (s : Shared)
    (Q E : Value → Shared → Prop),
    Below A₀ base outer h₀ → Fr h₀ L s.heap m → (Mine.hd.heap_39 w.params).In h₀ → News h₀ L s.heap news →
    Top Mine.hd.view_39 (looseW Mine.hd.view_39 [Str.ofString "PYTHON_FORMAT", Str.ofString "_string_format_compatibilities"]) mean mg mb h₀ →
    cs.kind = .function → dp + bd < recursionLimit → un + bu < cLine → Pre base news →
    (∀ r tl h' tk', Fr h₀ L h' m → News h₀ L h' (tl ++ news) → Out tl r → Q r { s with heap := h', toks := tk' }) →
    wpAny (model PySem.Challenge.rw_ey0006_01.row.prog w) (ktrTop dp un gd cn cs L a ccd cl outer) (call (.ref f) args) Q E s

theorem Tell.use {w : World} {mg mb : Str → Option Value} {mean : ExcName → Option Value} {bd bu : Nat} {f : Addr} {args : List Value} {Pre : Heap → List (Addr × Obj) → Prop} {Out : List (Addr × Obj) → Value → Prop}
    (C : Tell w mg mb mean bd bu f args Pre Out)
    {dp un : Nat} {gd : Option (List Code)} {cn : Str} {cs : Scope} {a : Addr} {ccd : Value} {cl : List (Str × Addr)} {outer : List Env} {A₀ : Around} {base h₀ : Heap} {L : Addr} {m : Str → Option Value} {news : List (Addr × Obj)} {s : Shared}
    {Q E : Value → Shared → Prop}
    (B : Below A₀ base outer h₀) (F : Fr h₀ L s.heap m) (X : (Mine.hd.heap_39 w.params).In h₀) (N : News h₀ L s.heap news)
    (T : Top Mine.hd.view_39 (looseW Mine.hd.view_39 [Str.ofString "PYTHON_FORMAT", Str.ofString "_string_format_compatibilities"]) mean mg mb h₀)
    (hk : cs.kind = .function) (hd : dp + bd < recursionLimit) (hu : un + bu < cLine) (hP : Pre base news)
    (ret : ∀ r tl h' tk', Fr h₀ L h' m → News h₀ L h' (tl ++ news) → Out tl r → Q r { s with heap := h', toks := tk' }) :
    wpAny (model PySem.Challenge.rw_ey0006_01.row.prog w) (ktrTop dp un gd cn cs L a ccd cl outer) (call (.ref f) args) Q E s :=
  C _ _ _ _ _ _ _ _ _ _ _ _ _ _ _ _ _ _ B F X N T hk hd hu hP ret

section
variable {prog : Program} {w : World} {A : Around} {E : Value → Shared → Prop} {s : Shared} {env : Env} {h₀ : Heap} {target : Expr} {body : List Stmt} {Q : Flow → Shared → Prop} {K : Frag}
/-- a for over a list that stood ahead of the frame -/
theorem iter_listH {ax : Addr} {vs : List Value} {m₀ : Str → Option Value} {news : List (Addr × Obj)}
    (hh : A.handled = none) (F : Fr h₀ env.locals s.heap m₀) (N : News h₀ env.locals s.heap news) (hl₀ : h₀.IsList ax vs.toArray)
    (rest₀ : ∀ I : Addr, (∀ p ∈ news, p.1 < I) → ItemsRest prog w A E h₀ env target body Q s [(I, "list_iterator")] [] (vs.map .val) m₀ news) :
    wpAny (model prog w) A (pyIter (.ref ax)) (fun it s₂ => TurnsAt prog w A h₀ env target body Q E it s₂) E s := by
  obtain ⟨lo, hg, hlo⟩ := hl₀
  have hax : s.heap.get? ax = some lo := F.keep _ _ hg
  have hl : s.heap.IsList ax vs.toArray := ⟨lo, hax, hlo⟩
  have hlt : ax < s.heap.objs.size := Heap.lt_size hax
  have hne : ax ≠ s.heap.objs.size := Nat.ne_of_lt hlt
  refine wpAny_pyIter_list hl ?_
  refine ktg_core (tk0 := s.toks) (keep := []) (KTurns.ofWalks (Walks.list hh s.heap.objs.size ax hne vs.toArray) fun i v s Q E st q => letGo_listiter st.1 q) (by simp) (fun i v h hp => ⟨.val v, ?_, rfl⟩) (fun i h st => ?_) (fun b hb => ?_) (fun b hb => by simpa using hb) (fun b hb => ?_) ?_ (fun p hp hI => ?_) ?_ (F.push _) (fun p hp => ⟨Heap.get?_push_of_some _ (N p hp).1, (N p hp).2⟩) trivial (rest₀ _ fun p hp => Heap.lt_size (N p hp).1)
  · have hp' : vs.toArray[i]? = some v := hp
    simpa using hp'
  · obtain ⟨it, hit, hic, _⟩ := st.1
    exact ⟨[(s.heap.objs.size, it)], ⟨⟨rfl, hic⟩, trivial⟩, fun p hp => by rw [List.mem_singleton.mp hp]; exact hit⟩
  · have hb' : b = s.heap.objs.size := by simpa using hb
    rw [hb']
    exact ⟨List.mem_cons_self .., next_is_new F⟩
  · have hb' : b = s.heap.objs.size ∨ b = ax := by simpa using hb
    rcases hb' with e | e
    · exact .inl (by simp [e])
    · exact .inr (.inr ⟨lo, by rw [e]; exact hg⟩)
  · intro hI
    rcases List.mem_cons.mp hI with e | hI
    · exact absurd F.ns.lt (e ▸ Nat.lt_irrefl _)
    · have e : env.locals = ax := List.mem_singleton.mp hI
      exact absurd (Heap.lt_size hg) (Nat.not_lt.mpr (e ▸ F.above))
  · exact absurd (Heap.lt_size (N p hp).1) ((List.mem_singleton.mp hI) ▸ Nat.lt_irrefl _)
  · exact ⟨⟨_, Heap.get?_push_size _ rfl, rfl, rfl⟩, hl.at fun o e => Heap.get?_push_of_some _ e⟩
end

theorem allObj_mono : ∀ {ws : List (Addr × String)} {k k' : List (Addr × Obj) → Prop}, AllObj ws k → (∀ its, k its → k' its) → AllObj ws k'
  | [], _, _, h, l => l _ h
  | _ :: _, _, _, h, l => fun o hc => allObj_mono (h o hc) fun its => l _
theorem unr_mono {h₀ : Heap} {L : Addr} {s₁ : Shared} {its : List (Addr × Obj)} {rest rest' : (Str → Option Value) → List (Addr × Obj) → Prop} {Q : Flow → Shared → Prop} {f : Flow} {s₂ : Shared}
    (h : UnrPostW h₀ L s₁ its rest Q f s₂) (l : ∀ m n, rest m n → rest' m n) : UnrPostW h₀ L s₁ its rest' Q f s₂ := by
  cases f with
  | ret v => exact h
  | brk => exact h
  | next => obtain ⟨h', tk, m', n', e, F, N, o, r⟩ := h; exact ⟨h', tk, m', n', e, F, N, o, l _ _ r⟩
  | cont => obtain ⟨h', tk, m', n', e, F, N, o, r⟩ := h; exact ⟨h', tk, m', n', e, F, N, o, l _ _ r⟩
section
variable {prog : Program} {w : World} {A : Around} {E : Value → Shared → Prop} {s : Shared} {env : Env} {h₀ : Heap} {target : Expr} {body : List Stmt} {Q : Flow → Shared → Prop}
/-- a loop by what holds ahead of what is left -/
theorem rest_inv {ws : List (Addr × String)} {keep : List (Addr × Obj)} (J : List Itm → (Str → Option Value) → List (Addr × Obj) → Prop)
    (zero : ∀ M news h tk, J [] M news → Fr h₀ env.locals h M → News h₀ env.locals h news → Q .next { s with heap := h, toks := tk })
    (step : ∀ a r M news v h tk, J (a :: r) M news → a.Is v h → Fr h₀ env.locals h M → AllObj ws (fun its => News h₀ env.locals h (its ++ news) →
      wpAny (model prog w) A (assign target env v) (fun _ s₂ => wpAny (model prog w) A (execs body env) (UnrPostW h₀ env.locals { s with heap := h, toks := tk } its (fun m' n' => SubL keep n' ∧ J r m' n') Q) E s₂) E { s with heap := h, toks := tk })) :
    ∀ (xs : List Itm) (M : Str → Option Value) (news : List (Addr × Obj)), J xs M news → ItemsRest prog w A E h₀ env target body Q s ws keep xs M news
  | [], M, news, j => fun h tk F N => zero M news h tk j F N
  | a :: r, M, news, j => fun v h tk hv F => allObj_mono (step a r M news v h tk j hv F) fun its k N =>
    wpAny_mono (k N) (fun _ s₂ h₂ => wpAny_mono h₂ (fun f s₃ h₃ => unr_mono h₃ fun m n p => ⟨p.1, rest_inv J zero step r m n p.2⟩) fun _ _ e => e) fun _ _ e => e
end
/-- a place where the walk is to stand still -/
def Stop (P : Prop) : Prop := P
theorem Stop.of {P : Prop} (h : Stop P) : P := h
theorem Stop.on {P : Prop} (h : P) : Stop P := h
theorem canon1 (M : Str → Option Value) (a : Str) : M = fun y => if y = a then M a else M y := by
  funext y
  by_cases h1 : y = a
  · rw [if_pos h1, h1]
  · rw [if_neg h1]
theorem newsAdd {h₀ h : Heap} {L : Addr} {p : Addr × Obj} {news : List (Addr × Obj)} (N : News h₀ L h news) (hp : p ∈ news) : News h₀ L h (p :: news) := fun q hq => by
  rcases List.mem_cons.mp hq with rfl | hq
  · exact N _ hp
  · exact N q hq
theorem newsTail {h₀ h : Heap} {L : Addr} {p : Addr × Obj} {news : List (Addr × Obj)} (N : News h₀ L h (p :: news)) : News h₀ L h news := fun q hq => N q (List.mem_cons_of_mem _ hq)
theorem endW1 {h₀ h' : Heap} {L i : Addr} {o : Obj} {news' : List (Addr × Obj)} {rest : (Str → Option Value) → List (Addr × Obj) → Prop} {s₁ : Shared} {tk : Nat} {m' : Str → Option Value}
    (F : Fr h₀ L h' m') (N : News h₀ L h' ((i, o) :: news')) (l : ∀ p ∈ news', p.1 < i) (r : rest m' news') : UnrEndW h₀ L s₁ [(i, o)] rest { s₁ with heap := h', toks := tk } :=
  ⟨h', tk, m', news', rfl, F, N, fun p hp q hq e => by
    rw [List.mem_singleton.mp hq] at e
    exact absurd (l p hp) (by rw [e]; exact Nat.lt_irrefl _), r⟩

section
variable {prog : Program} {w : World} {A : Around} {E : Value → Shared → Prop} {s : Shared}
theorem append_top {h₀ : Heap} {L r : Addr} {m : Str → Option Value} {vs : List Value} {n : Nat} {rest : List (Addr × Obj)} {x : Value} {Q : Value → Shared → Prop} (F : Fr h₀ L s.heap m)
    (N : News h₀ L s.heap ((r, { cls := .type "list", data := .seq vs.toArray n }) :: rest)) (off : ∀ p ∈ rest, p.1 ≠ r) (hl : vs.length ≤ 100000)
    (h : ∀ h', Fr h₀ L h' m → News h₀ L h' ((r, { cls := .type "list", data := .seq (vs ++ [x]).toArray (n + 1) }) :: rest) → Q .none { s with heap := h' }) :
    wpAny (model prog w) A (call (.builtin "list.append") [.ref r, x]) Q E s := by
  refine append_K F N (Upd.head off) (fun h' F' N' => h h' F' ?_) ?_
  · rw [← List.push_toArray]
    exact N'
  · rw [List.size_toArray]
    exact Nat.le_trans hl (by decide)
theorem in_tupS {l : Addr} {vs : List Value} {ys : List Str} {k : Str} {t : Tok} {Q : Value → Shared → Prop} (hl : IsTup s.heap l vs.toArray) (hi : StrsAre vs ys)
    (h : Q (.bool (ys.any (· == k))) s) : wpAny (model prog w) A (compareOp .In (.str k t) (.ref l)) Q E s :=
  SeqAt.in_tupleAt (isStrOf k) hl (fun y hy => (eq_isStrOf k t hi y (by simpa using hy)).at _ _) (by rw [← Array.any_toList, show vs.toArray.toList = vs from rfl, any_isStrOf k hi]; exact h)
end
end Mine
end
section
open PySem PySem.W PyProof.Rows
set_option maxRecDepth 100000
set_option maxHeartbeats 8000000
namespace Mine
open PySem.Calls PyProof.V PySem.Spec

def compat (a b : Str) : Bool :=
  a == b || ((([("i" : Str), "d", "u"].any fun z => z == a) && [("i" : Str), "d", "u"].any fun z => z == b) ||
    ((([("x" : Str), "X"].any fun z => z == a) && [("x" : Str), "X"].any fun z => z == b) ||
      (([("f" : Str), "F", "g", "G"].any fun z => z == a) && [("f" : Str), "F", "g", "G"].any fun z => z == b)))

local macro_rules | `(tactic| walk_at "exec For Name Name cons nil") => `(tactic| (k_here; (rename Fr _ _ _ _ => lF'); (with_unfolding_all refine' For_turns lF' ?_; k_whole)))
local macro_rules | `(tactic| walk_at "pyIter ref") => `(tactic| (k_here; (with_reducible show wpAny _ _ (pyIter (Value.ref _)) (fun it s₂ => TurnsAt _ _ _ _ _ _ _ _ _ it s₂) _ _); (with_unfolding_all refine' iter_listH ?h ?F ?N ?X ?_; (case h => with_unfolding_all rfl); (case F => k_asm); (case N => k_asm); (case X => exact lstK (by k_asm) (by k_is)); k_whole); intro i' l1; (try k_lt l1)))
local macro_rules | `(tactic| walk_at "compareOp In str ref") => `(tactic| (k_here; (with_unfolding_all refine' in_tupS (tupK ?X ?hl) ?hi ?_; (case X => k_in); (case hl => k_is); (case hi => first | exact StrsAre.cons _ _ (StrsAre.cons _ _ StrsAre.nil) | exact StrsAre.cons _ _ (StrsAre.cons _ _ (StrsAre.cons _ _ StrsAre.nil)) | exact StrsAre.cons _ _ (StrsAre.cons _ _ (StrsAre.cons _ _ (StrsAre.cons _ _ StrsAre.nil)))); k_whole)))
local macro_rules | `(tactic| walk_at "UnrEndW") => `(tactic| ((with_unfolding_all refine' endW1 ?F ?N ?l ?_; (case F => k_asm); (case N => k_asm); (case l => k_asm)); (refine And.intro trivial ?_)))

section
variable {w : World} {mg mb : Str → Option Value} {mean : ExcName → Option Value}
theorem compat_tells (x y : Str) (tx ty : Tok) : Tell w mg mb mean 20 200 67 [.str x tx, .str y ty] (fun _ _ => True) (fun tl r => tl = [] ∧ r = .bool (compat x y)) := by
  k_with_none
  w_top off
  unfold Tell
  intro dp un gd cn cs a ccd cl outer A₀ base h₀ L m news s Q E B F X N T hk hd hu hP ret
  revert X; k_fill; intro X
  refine wpAny_call ?_
  k_dflt ktr_enter
  k_steps
  all_goals (try (refine ret _ [] _ _ (by k_asm) (by first | k_asm | exact newsTail (by k_asm)) ⟨rfl, ?_⟩; (simp only [compat, Bool.or_true, Bool.true_or, Bool.and_true, Bool.and_false, *]); try rfl))
end
end Mine
end
section
open PySem PySem.W PyProof.Rows
set_option maxRecDepth 100000
set_option maxHeartbeats 8000000
namespace Mine
open PySem.Calls PyProof.V PySem.Spec

def menu (ws : List Str) (i : Int) : Str := ws.getD i.toNat Str.empty
def nameV (nm : Option Str) (t : Tok) : Value := match nm with | none => .none | some n => .str n t
def headOf (nm : Option Str) : Str := match nm with | none => "%" | some n => "%(" ++ n ++ ")"
def formOf (k : Int) : Str := menu ["", "-", "0", "+", " ", "#"] (k.fmod 6)
def textOf (k : Int) (nm : Option Str) (y : Str) : Str :=
  headOf nm ++ menu ["", "-", "0", "+", " ", "#"] (k.fmod 6) ++ menu ["", "5", "*", "12"] ((k.fdiv 6).fmod 4) ++ menu ["", ".2", ".*"] ((k.fdiv 24).fmod 3) ++ menu ["", "l", "h"] ((k.fdiv 72).fmod 3) ++ y
def wordOf (x n y : Str) : Str := "incompatible format for placeholder " ++ n ++ ": '" ++ x ++ "' and '" ++ y ++ "' are not compatible"
def cellOf (ns : List Int) (i : Int) : Int := if i < (ns.length : Int) then (if ns.getD i.toNat 0 < 0 then -ns.getD i.toNat 0 else ns.getD i.toNat 0) else 7 * i + 3

section
variable {w : World} {mg mb : Str → Option Value} {mean : ExcName → Option Value}
theorem text_tells (k : Int) (nm : Option Str) (y : Str) (tk tn ty : Tok) : Tell w mg mb mean 20 200 95 [.int k tk, nameV nm tn, .str y ty]
    (fun _ _ => 0 ≤ k ∧ y.length ≤ 100 ∧ ∀ n, nm = some n → n.length ≤ 100) (fun tl r => tl = [] ∧ ∃ t, r = .str (textOf k nm y) t) := by
  k_with_none
  w_top off
  unfold Tell
  intro dp un gd cn cs a ccd cl outer A₀ base h₀ L m news s Q E B F X N T hk hd hu hP ret
  obtain ⟨hk0, hy, hn⟩ := hP
  revert X; k_fill; intro X
  refine wpAny_call ?_
  cases nm with
  | none =>
    dsimp only [nameV]
    k_dflt ktr_enter
    k_with "table" => skip
    k_steps
    all_goals exact ret _ [] _ _ (by k_asm) (by first | k_asm | exact newsTail (by k_asm) | exact newsTail (newsTail (by k_asm)) | exact newsTail (newsTail (newsTail (by k_asm))) | exact newsTail (newsTail (newsTail (newsTail (by k_asm))))) ⟨rfl, _, rfl⟩
  | some n =>
    have hn := hn n rfl
    dsimp only [nameV]
    k_dflt ktr_enter
    k_with "table" => skip
    k_steps
    all_goals exact ret _ [] _ _ (by k_asm) (by first | k_asm | exact newsTail (by k_asm) | exact newsTail (newsTail (by k_asm)) | exact newsTail (newsTail (newsTail (by k_asm))) | exact newsTail (newsTail (newsTail (newsTail (by k_asm))))) ⟨rfl, _, rfl⟩
theorem word_tells (x n y : Str) (tx tn ty : Tok) : Tell w mg mb mean 20 200 126 [.str x tx, .str n tn, .str y ty] (fun _ _ => x.length ≤ 100 ∧ n.length ≤ 100 ∧ y.length ≤ 100) (fun tl r => tl = [] ∧ ∃ t, r = .str (wordOf x n y) t) := by
  k_with_none
  w_top off
  unfold Tell
  intro dp un gd cn cs a ccd cl outer A₀ base h₀ L m news s Q E B F X N T hk hd hu hP ret
  revert X; k_fill; intro X
  refine wpAny_call ?_
  k_dflt ktr_enter
  k_steps
  all_goals exact ret _ [] _ _ (by k_asm) (by k_asm) ⟨rfl, _, rfl⟩
theorem cell_tells (sl : Addr) (ns : List Int) (i : Int) (t : Tok) : Tell w mg mb mean 20 200 88 [.ref sl, .int i t] (fun base _ => 0 ≤ i ∧ i ≤ 100 ∧ ns.length ≤ 63 ∧ ∃ vs, base.IsList sl vs.toArray ∧ IntsAre vs ns) (fun tl r => tl = [] ∧ ∃ t, r = .int (cellOf ns i) t) := by
  k_with_none
  w_top off
  unfold Tell
  intro dp un gd cn cs a ccd cl outer A₀ base h₀ L m news s Q E B F X N T hk hd hu hP ret
  obtain ⟨h0, h1, hlen, vs, hl, hi⟩ := hP
  revert X; k_fill; intro X
  refine wpAny_call ?_
  k_dflt ktr_enter
  rename_i g₁ L₁ h₁ FG₁ F₁ N₁ B₁ X₁ T₁
  k_lift B₁
  k_steps
  · exact ret _ [] _ _ (by k_asm) (by k_asm) ⟨rfl, _, by rw [cellOf, if_pos ‹i < (ns.length : Int)›]⟩
  · exact ret _ [] _ _ (by k_asm) (by k_asm) ⟨rfl, _, by rw [cellOf, if_neg ‹¬ i < (ns.length : Int)›]⟩
end
end Mine
end
section
open PySem PySem.W PyProof.Rows
set_option maxRecDepth 100000
set_option maxHeartbeats 8000000
namespace Mine
open PySem.Calls PyProof.V PySem.Spec
theorem plainAttrs_pattern : PlainAttrs "re.Pattern" := by
  refine ⟨⟨"object.__getattribute__", by rw [typeLookup_type, builtinLookup_eq_fast]; kernel_rfl, by decide +kernel⟩, by rw [typeLookup_type, builtinLookup_eq_fast]; kernel_rfl⟩
theorem plainAttrs_match : PlainAttrs "re.Match" := by
  refine ⟨⟨"object.__getattribute__", by rw [typeLookup_type, builtinLookup_eq_fast]; kernel_rfl, by decide +kernel⟩, by rw [typeLookup_type, builtinLookup_eq_fast]; kernel_rfl⟩
theorem slot_search : Slot "re.Pattern" "search" "re.Pattern.search" :=
  .of (owner := "re.Pattern") (n := "search") (by rw [typeLookup_type, builtinLookup_eq_fast]; kernel_rfl) (by decide +kernel) (by decide +kernel) (by decide +kernel)
    (by first | exact .inl (by decide +kernel) | exact .inr (by decide +kernel)) (by rw [isSubtype_type]; kernel_rfl)
theorem type_search : typeOf (.builtin "re.Pattern.search") = pure (.type "method_descriptor") := by show builtinType _ = _; rw [builtinType_eq_fast]; kernel_rfl
theorem entry_search : entryFor table "re.Pattern.search" = some Builtin.«re.Pattern.search» := entryFor_of_tree (by kernel_rfl)
theorem args_search (a b : Value) : argsOk "re.Pattern.search" ⟨[a, b], []⟩ := by
  unfold argsOk; kernel_rfl
theorem slot_groups : Slot "re.Match" "groups" "re.Match.groups" :=
  .of (owner := "re.Match") (n := "groups") (by rw [typeLookup_type, builtinLookup_eq_fast]; kernel_rfl) (by decide +kernel) (by decide +kernel) (by decide +kernel)
    (by first | exact .inl (by decide +kernel) | exact .inr (by decide +kernel)) (by rw [isSubtype_type]; kernel_rfl)
theorem type_groups : typeOf (.builtin "re.Match.groups") = pure (.type "method_descriptor") := by show builtinType _ = _; rw [builtinType_eq_fast]; kernel_rfl
theorem entry_groups : entryFor table "re.Match.groups" = some Builtin.«re.Match.groups» := entryFor_of_tree (by kernel_rfl)
theorem args_groups (a : Value) : argsOk "re.Match.groups" ⟨[a], []⟩ := by
  unfold argsOk; kernel_rfl
theorem slot_end : Slot "re.Match" "end" "re.Match.end" :=
  .of (owner := "re.Match") (n := "end") (by rw [typeLookup_type, builtinLookup_eq_fast]; kernel_rfl) (by decide +kernel) (by decide +kernel) (by decide +kernel)
    (by first | exact .inl (by decide +kernel) | exact .inr (by decide +kernel)) (by rw [isSubtype_type]; kernel_rfl)
theorem type_end : typeOf (.builtin "re.Match.end") = pure (.type "method_descriptor") := by show builtinType _ = _; rw [builtinType_eq_fast]; kernel_rfl
theorem entry_end : entryFor table "re.Match.end" = some Builtin.«re.Match.end» := entryFor_of_tree (by kernel_rfl)
theorem args_end (a : Value) : argsOk "re.Match.end" ⟨[a], []⟩ := by
  unfold argsOk; kernel_rfl
end Mine
end
section
set_option maxRecDepth 100000
namespace Mine.Rx
open PySem.Sre PySem.Sre.M

def code : Array Nat := #[14, 8, 1, 2, 4294967295, 1, 1, 37, 0, 16, 37, 23, 21, 0, 1, 16, 40, 17, 0, 24, 9, 0, 4294967295, 13, 4, 8, 14, 0, 1, 17, 1, 16, 41, 18, 17, 2, 24, 16, 0, 1, 13, 11, 9, 0, 75785, 0, 0, 0, 0, 0, 0, 0, 1, 23, 23, 0, 1, 7, 5, 16, 42, 15, 15, 13, 24, 9, 1, 4294967295, 13, 4, 8, 10, 0, 1, 15, 2, 0, 18, 23, 25, 0, 1, 16, 46, 7, 5, 16, 42, 15, 15, 13, 24, 9, 1, 4294967295, 13, 4, 8, 10, 0, 1, 15, 2, 0, 18, 24, 16, 0, 1, 13, 11, 9, 0, 0, 4096, 4352, 0, 0, 0, 0, 0, 1, 17, 3, 17, 4, 13, 11, 9, 0, 32, 16777440, 19694328, 0, 0, 0, 0, 0, 17, 5, 1]

/-- in at most k steps -/
def Leads (k : Nat) (P Q : M → Prop) : Prop := ∀ m, P m → ∃ n, n ≤ k ∧ Q (runFor n m)

theorem runFor_none {n : Nat} {m : M} (h : m.outcome = none) : runFor (n + 1) m = runFor n m.step := by
  show (if m.outcome.isSome = true then m else runFor n m.step) = _
  rw [h]; rfl
theorem runFor_some : ∀ (n : Nat) {m : M}, m.outcome.isSome = true → runFor n m = m
  | 0, _, _ => rfl
  | n + 1, m, h => by
    show (if m.outcome.isSome = true then m else runFor n m.step) = _
    rw [if_pos h]
theorem runFor_add : ∀ (a b : Nat) (m : M), runFor (a + b) m = runFor b (runFor a m)
  | 0, b, m => by rw [Nat.zero_add]; rfl
  | a + 1, b, m => by
    cases h : m.outcome with
    | none => rw [show a + 1 + b = (a + b) + 1 by omega, runFor_none h, runFor_none h]; exact runFor_add a b _
    | some o => rw [runFor_some (a + 1) (by rw [h]; rfl), runFor_some b (by rw [h]; rfl), runFor_some (a + 1 + b) (by rw [h]; rfl)]

theorem Leads.refl (P : M → Prop) : Leads 0 P P := fun m h => ⟨0, Nat.le_refl _, h⟩
theorem Leads.trans {a b : Nat} {P Q R : M → Prop} (h : Leads a P Q) (g : Leads b Q R) : Leads (a + b) P R := fun m p => by
  obtain ⟨n, hn, q⟩ := h m p
  obtain ⟨k, hk, r⟩ := g _ q
  exact ⟨n + k, by omega, by rw [runFor_add]; exact r⟩
theorem Leads.one {P Q : M → Prop} (h : ∀ m, P m → m.outcome = none ∧ Q m.step) : Leads 1 P Q := fun m p => by
  refine ⟨1, Nat.le_refl _, ?_⟩
  rw [runFor_none (h m p).1]
  exact (h m p).2
theorem Leads.mono {a b : Nat} {P Q : M → Prop} (h : Leads a P Q) (l : a ≤ b) : Leads b P Q := fun m p => by
  obtain ⟨n, hn, q⟩ := h m p
  exact ⟨n, by omega, q⟩
theorem Leads.weaken {a : Nat} {P Q R : M → Prop} (h : Leads a P Q) (l : ∀ m, Q m → R m) : Leads a P R := fun m p => by
  obtain ⟨n, hn, q⟩ := h m p
  exact ⟨n, hn, l _ q⟩

abbrev Marks := Array (Option Nat)
/-- a state under way -/
abbrev st (text : Array Nat) (s pc pos : Nat) (marks : Marks) (lm li : Int) (L : Array Loop) (inner : Option Nat) (F : List Frame) (W : Nat) (seen : Seen) (o : Bool) (hd : Nat) : M :=
  { code := code, text := text, lim := text.size, start := s, lastStart := text.size, pc := pc, pos := pos, handed := hd, outermost := o, marks := marks, lastmark := lm, lastindex := li, loops := L, inner := inner, frames := F, weight := W, seen := seen }
def Sh (text : Array Nat) (s pc pos : Nat) (marks : Marks) (lm li : Int) (L : Array Loop) (inner : Option Nat) (F : List Frame) (B : Nat) (m : M) : Prop :=
  ∃ W seen o hd, W ≤ B ∧ m = st text s pc pos marks lm li L inner F W seen o hd
/-- a state that answers -/
def Sa (b : Bool) (text : Array Nat) (s : Nat) (marks : Marks) (lm li : Int) (L : Array Loop) (inner : Option Nat) (F : List Frame) (B hd : Nat) (m : M) : Prop :=
  ∃ pc pos W seen o, W ≤ B ∧ m = { st text s pc pos marks lm li L inner F W seen o hd with answer := some b }
def Sf (text : Array Nat) (s : Nat) (marks : Marks) (lm li : Int) (L : Array Loop) (inner : Option Nat) (F : List Frame) (B : Nat) (m : M) : Prop :=
  ∃ hd, Sa false text s marks lm li L inner F B hd m

theorem getD_push {α : Type} (L : Array α) (l d : α) : (L.push l).getD L.size d = l := by simp [Array.getD_eq_getD_getElem?]
theorem modify_push {α : Type} (L : Array α) (l : α) (f : α → α) : (L.push l).modify L.size f = L.push (f l) := by
  apply Array.ext
  · simp
  · intro i h1 h2
    rw [Array.getElem_modify, Array.getElem_push, Array.getElem_push]
    simp at h1
    by_cases h : i < L.size
    · simp [h, Nat.ne_of_gt h]
    · have : L.size = i := by omega
      simp [this]

section
variable {text : Array Nat} {s pos : Nat} {marks : Marks} {lm li : Int} {L : Array Loop} {inner : Option Nat} {F : List Frame} {B : Nat}

theorem step_exec {m : M} (h : m.outcome = none) (ha : m.answer = none) (hp : m.pc < m.code.size) : m.step = m.exec := by
  unfold M.step
  rw [h, ha]
  simp only [Option.isSome_none, Bool.false_eq_true, if_false]
  rw [if_pos hp]

theorem lit_yes (pc c : Nat) (hp : pc < code.size) (ho : code.getD pc 0 = 16) (hc : code.getD (pc + 1) 0 = c) (hlt : pos < text.size) (ht : text.getD pos 0 = c) :
    Leads 1 (Sh text s pc pos marks lm li L inner F B) (Sh text s (pc + 2) (pos + 1) marks lm li L inner F B) := Leads.one fun m h => by
  obtain ⟨W, seen, o, hd, hW, rfl⟩ := h
  refine ⟨rfl, W, seen.add 16, o, hd, hW, ?_⟩
  rw [step_exec rfl rfl hp]
  unfold M.exec
  simp only [M.word, Nat.add_zero, ho, show ops[16]? = some Op.LITERAL from rfl, accepts, hc, ht, itemWidth, if_neg (Nat.not_le.mpr hlt), beq_self_eq_true, ge_iff_le]
theorem lit_no (pc c : Nat) (hp : pc < code.size) (ho : code.getD pc 0 = 16) (hc : code.getD (pc + 1) 0 = c) (ht : pos < text.size → text.getD pos 0 ≠ c) :
    Leads 1 (Sh text s pc pos marks lm li L inner F B) (Sf text s marks lm li L inner F B) := Leads.one fun m h => by
  obtain ⟨W, seen, o, hd, hW, rfl⟩ := h
  refine ⟨rfl, hd, pc, pos, W, seen.add 16, o, hW, ?_⟩
  rw [step_exec rfl rfl hp]
  unfold M.exec
  simp only [M.word, Nat.add_zero, ho, show ops[16]? = some Op.LITERAL from rfl, accepts, hc, ge_iff_le]
  by_cases hlt : pos < text.size
  · rw [if_neg (Nat.not_le.mpr hlt), show (text.getD pos 0 == c) = false from by simpa using ht hlt]
    rfl
  · rw [if_pos (Nat.not_lt.mp hlt)]
    rfl

def markOf (marks : Marks) (lm : Int) (i pos : Nat) : Marks :=
  (if (i : Int) ≤ lm + 1 then marks else (List.range i).foldl (fun (a : Array (Option Nat)) (j : Nat) => if (j : Int) > lm then a.setIfInBounds j none else a) marks).setIfInBounds i (some pos)
theorem i_mark (pc i : Nat) (hp : pc < code.size) (ho : code.getD pc 0 = 17) (hi : code.getD (pc + 1) 0 = i) :
    Leads 1 (Sh text s pc pos marks lm li L inner F B) (Sh text s (pc + 2) pos (markOf marks lm i pos) (max lm i) (if i % 2 == 1 then (i / 2 + 1 : Nat) else li) L inner F B) := Leads.one fun m h => by
  obtain ⟨W, seen, o, hd, hW, rfl⟩ := h
  refine ⟨rfl, W, seen.add 17, o, hd, hW, ?_⟩
  rw [step_exec rfl rfl hp]
  unfold M.exec
  simp only [M.word, Nat.add_zero, ho, hi, show ops[17]? = some Op.MARK from rfl]
  rfl
theorem i_jump (pc k : Nat) (hp : pc < code.size) (ho : code.getD pc 0 = 15) (hk : pc + 1 + code.getD (pc + 1) 0 = k) :
    Leads 1 (Sh text s pc pos marks lm li L inner F B) (Sh text s k pos marks lm li L inner F B) := Leads.one fun m h => by
  obtain ⟨W, seen, o, hd, hW, rfl⟩ := h
  refine ⟨rfl, W, seen.add 15, o, hd, hW, ?_⟩
  rw [step_exec rfl rfl hp]
  unfold M.exec
  simp only [M.word, Nat.add_zero, ho, hk, show ops[15]? = some Op.JUMP from rfl]

/-- the set at i takes c, or does not -/
def Acc (i c : Nat) (b : Bool) : Prop := ∀ seen, ∃ seen', accepts code i c seen = .ok (b, seen')
theorem i_in (pc k : Nat) (hp : pc < code.size) (ho : code.getD pc 0 = 13) (hk : pc + 1 + code.getD (pc + 1) 0 = k) (hlt : pos < text.size) (ht : Acc pc (text.getD pos 0) true) :
    Leads 1 (Sh text s pc pos marks lm li L inner F B) (Sh text s k (pos + 1) marks lm li L inner F B) := Leads.one fun m h => by
  obtain ⟨W, seen, o, hd, hW, rfl⟩ := h
  obtain ⟨seen', he⟩ := ht (seen.add 13)
  refine ⟨rfl, W, seen', o, hd, hW, ?_⟩
  rw [step_exec rfl rfl hp]
  unfold M.exec
  simp only [M.word, Nat.add_zero, ho, show ops[13]? = some Op.IN from rfl, he, itemWidth, if_neg (Nat.not_le.mpr hlt), ge_iff_le]
  rw [show pc + (1 + code.getD (pc + 1) 0) = k by omega]

theorem run_yes (i : Nat) : ∀ (k n p found : Nat) (seen : Seen), k ≤ n → (∀ j, j < k → Acc i (text.getD (p + j) 0) true) → (k = n ∨ Acc i (text.getD (p + k) 0) false) →
    ∃ seen', run code text i n p found seen = .ok (found + k, seen')
  | 0, 0, p, found, seen, _, _, _ => ⟨seen, rfl⟩
  | 0, n + 1, p, found, seen, _, _, hn => by
    obtain ⟨seen', he⟩ := (hn.resolve_left (by omega)) seen
    rw [Nat.add_zero] at he
    refine ⟨seen', ?_⟩
    unfold run
    rw [he]
    rfl
  | k + 1, 0, p, found, seen, h, _, _ => absurd h (by omega)
  | k + 1, n + 1, p, found, seen, h, hy, hn => by
    obtain ⟨seen₁, he⟩ := hy 0 (by omega) seen
    rw [Nat.add_zero] at he
    obtain ⟨seen', hr⟩ := run_yes i k n (p + 1) (found + 1) seen₁ (by omega) (fun j hj => by rw [show p + 1 + j = p + (j + 1) by omega]; exact hy (j + 1) (by omega))
      (hn.imp (by omega) (fun x => by rw [show p + 1 + k = p + (k + 1) by omega]; exact x))
    refine ⟨seen', ?_⟩
    unfold run
    rw [he]
    show run code text i n (p + 1) (found + 1) seen₁ = _
    rw [hr, show found + 1 + k = found + (k + 1) by omega]

theorem i_many (pc k least most n : Nat) (hp : pc < code.size) (ho : code.getD pc 0 = 24) (hk : pc + 1 + code.getD (pc + 1) 0 = k) (hl : code.getD (pc + 2) 0 = least) (hm : code.getD (pc + 3) 0 = most)
    (hB : B ≤ 1000) (hmk : marks.size ≤ 10) (hle : least ≤ n) (hn : n ≤ most) (hfit : pos + n ≤ text.size) (hy : ∀ j, j < n → Acc (pc + 4) (text.getD (pos + j) 0) true)
    (hno : n = most ∨ pos + n = text.size ∨ Acc (pc + 4) (text.getD (pos + n) 0) false) :
    Leads 1 (Sh text s pc pos marks lm li L inner F B) (fun m => ∃ fr, fr.wait = .giveBack ∧ Sh text s k (pos + n) marks lm li L inner (fr :: F) (B + 11) m) := Leads.one fun m h => by
  obtain ⟨W, seen, o, hd, hW, rfl⟩ := h
  have hroom : ((text.size : Int) - (pos : Int)).toNat = text.size - pos := by omega
  obtain ⟨seen', hr⟩ := run_yes (text := text) (pc + 4) n (min most (text.size - pos)) pos 0 ((seen.add 24).add (code.getD (pc + 4) 0)) (by omega) hy (by
    rcases hno with h | h | h
    · exact .inl (by omega)
    · exact .inl (by omega)
    · exact .inr h)
  rw [Nat.zero_add] at hr
  have hks : ∀ b, (if b = true then marks.extract 0 (lm + 1).toNat else #[]).size ≤ 10 := fun b => by
    cases b
    · simp
    · simp only [if_true, Array.size_extract]; omega
  refine ⟨rfl, { wait := .giveBack, pc := pc, pos := pos + n, outermost := o, count := n, kept := { lastmark := lm, lastindex := li, whole := inner.isSome, marks := if inner.isSome = true then marks.extract 0 (lm + 1).toNat else #[] } }, rfl,
    W + 1 + (if inner.isSome = true then marks.extract 0 (lm + 1).toNat else #[]).size, seen', o, pos + n, by have := hks inner.isSome; omega, ?_⟩
  rw [step_exec rfl rfl hp]
  unfold M.exec
  simp only [M.word, Nat.add_zero, ho, hl, hm, show ops[24]? = some Op.REPEAT_ONE from rfl, hroom, hr, Bool.false_eq_true, if_false]
  rw [if_neg (by omega), if_neg (by omega)]
  simp only [M.afterRun, M.attempt, M.frame, M.keep, M.word]
  rw [if_neg (by have := hks inner.isSome; omega), hk]

/-- the frames that a group in hand pushes -/
def mmFr (r u pos : Nat) (o : Bool) (lm li : Int) (marks : Marks) (i : Nat) : Frame :=
  { wait := .maxMore, pc := u + 1, pos := pos, outermost := o, count := 0, kept := { lastmark := lm, lastindex := li, whole := true, marks := marks.extract 0 (lm + 1).toNat }, loop := i, began := none }
def lp (r : Nat) (count : Int) (began : Option Nat) : Loop := { pc := r, count := count, began := began, outer := none }

/-- a group of at most one turn is entered -/
theorem opt_enter (r u : Nat) (hr : r < code.size) (hor : code.getD r 0 = 23) (hru : r + 1 + code.getD (r + 1) 0 = u) (hu : u < code.size) (hou : code.getD u 0 = 18) (h0 : code.getD (r + 2) 0 = 0) (h1 : code.getD (r + 3) 0 = 1)
    (hB : B ≤ 1000) (hmk : marks.size ≤ 10) :
    Leads 2 (Sh text s r pos marks lm li L none F B) (fun m => ∃ o cl, cl.wait = .closeLoop ∧ Sh text s (r + 4) pos marks lm li (L.push (lp r 0 (some pos))) (some L.size) (mmFr r u pos o lm li marks L.size :: cl :: F) (B + 12) m) := by
  have A : Leads 1 (Sh text s r pos marks lm li L none F B) (fun m => ∃ cl, cl.wait = .closeLoop ∧ Sh text s u pos marks lm li (L.push (lp r (-1) none)) (some L.size) (cl :: F) (B + 1) m) := Leads.one fun m h => by
    obtain ⟨W, seen, o, hd, hW, rfl⟩ := h
    refine ⟨rfl, { wait := .closeLoop, pc := r, pos := pos, outermost := o, loop := L.size }, rfl, W + 1, seen.add 23, o, pos, by omega, ?_⟩
    rw [step_exec rfl rfl hr]
    unfold M.exec
    simp only [M.word, Nat.add_zero, hor, show ops[23]? = some Op.REPEAT from rfl, M.attempt, M.frame]
    rw [if_neg (by show ¬ W + 1 + 0 > 16777216; omega), hru]
    rfl
  refine A.trans (Leads.one fun m h => ?_)
  obtain ⟨cl, hcl, W, seen, o, hd, hW, rfl⟩ := h
  have hsz : (marks.extract 0 (lm + 1).toNat).size ≤ 10 := by rw [Array.size_extract]; omega
  refine ⟨rfl, o, cl, hcl, W + 1 + (marks.extract 0 (lm + 1).toNat).size, seen.add 18, o, pos, by omega, ?_⟩
  rw [step_exec rfl rfl hu]
  unfold M.exec
  simp only [M.word, Nat.add_zero, hou, show ops[18]? = some Op.MAX_UNTIL from rfl]
  unfold M.until_
  simp only [M.loopAt, getD_push, lp, h0, h1]
  rw [if_neg (by omega)]
  simp only [Bool.not_true, Bool.false_eq_true, if_false]
  rw [if_pos (by simp)]
  simp only [M.round, M.loopAt, getD_push, M.setLoop, modify_push, M.attempt, M.frame, M.keep, if_true]
  rw [if_neg (by omega)]
  rfl

theorem restore (marks : Marks) (k : Nat) : marks.extract 0 k ++ marks.extract (marks.extract 0 k).size marks.size = marks := by
  apply Array.ext'
  by_cases h : k ≤ marks.size
  · have e : (marks.extract 0 k).size = k := by rw [Array.size_extract]; omega
    rw [e]
    simp [List.take_of_length_le]
    exact List.take_of_length_le (by simp; omega)
  · have e : marks.extract 0 k = marks := by
      apply Array.ext'
      simp [List.take_of_length_le (show marks.toList.length ≤ k by simp; omega)]
    rw [e]
    simp

/-- the group's first turn falls: it is left out -/
theorem opt_fail (r u : Nat) (o : Bool) (cl : Frame) (hB : B ≤ 1000) (hcl : cl.wait = .closeLoop) {L' : Array Loop} (hL' : L' = L.push (lp r 0 (some pos))) :
    Leads 1 (Sf text s marks lm li L' (some L.size) (mmFr r u pos o lm li marks L.size :: cl :: F) B)
      (fun m => ∃ mt cl', mt.wait = .maxTail ∧ cl'.wait = .closeLoop ∧ Sh text s (u + 1) pos marks lm li (L.push (lp r (-1) none)) none (mt :: cl' :: F) (B + 1) m) := Leads.one fun m h => by
  subst hL'
  obtain ⟨hd, pc, p, W, seen, o', hW, rfl⟩ := h
  refine ⟨rfl, { wait := .maxTail, pc := u + 1, pos := pos, outermost := o, loop := L.size, count := 0, kept := { lastmark := lm, lastindex := li } }, cl, rfl, hcl, W - (1 + (marks.extract 0 (lm + 1).toNat).size) + 1, seen, o, pos, by omega, ?_⟩
  unfold M.step
  simp only [Option.isSome_none, Bool.false_eq_true, if_false]
  unfold M.resume
  simp only [mmFr, Bool.false_eq_true, if_false, M.setLoop, modify_push, M.putBack, if_true, restore, lp, M.afterLoop, M.loopAt, getD_push, M.keep, M.attempt, M.frame]
  rw [if_neg (by show ¬ (W - (1 + (marks.extract 0 (lm + 1).toNat).size)) + 1 + 0 > 16777216; omega)]
  rfl
/-- the group's one turn is done -/
theorem opt_done (r u p₀ : Nat) (hu : u < code.size) (hou : code.getD u 0 = 18) (h0 : code.getD (r + 2) 0 = 0) (h1 : code.getD (r + 3) 0 = 1) (hB : B ≤ 1000) {L' : Array Loop} {i : Nat} (hi : i = L.size) (hL' : L' = L.push (lp r 0 (some p₀))) :
    Leads 1 (Sh text s u pos marks lm li L' (some i) F B)
      (fun m => ∃ mt, mt.wait = .maxTail ∧ Sh text s (u + 1) pos marks lm li L' none (mt :: F) (B + 1) m) := Leads.one fun m h => by
  subst hL' hi
  obtain ⟨W, seen, o, hd, hW, rfl⟩ := h
  refine ⟨rfl, { wait := .maxTail, pc := u + 1, pos := pos, outermost := o, loop := L.size, count := 1, kept := { lastmark := lm, lastindex := li } }, rfl, W + 1, seen.add 18, o, pos, by omega, ?_⟩
  rw [step_exec rfl rfl hu]
  unfold M.exec
  simp only [M.word, Nat.add_zero, hou, show ops[18]? = some Op.MAX_UNTIL from rfl]
  unfold M.until_
  simp only [M.loopAt, getD_push, lp, h0, h1]
  rw [if_neg (by omega)]
  simp only [Bool.not_true, Bool.false_eq_true, if_false]
  rw [if_neg (by simp [maxRepeat])]
  simp only [M.afterLoop, M.loopAt, getD_push, M.keep, M.attempt, M.frame, Bool.false_eq_true, if_false]
  rw [if_neg (by show ¬ W + 1 + 0 > 16777216; omega)]
  rfl

/-- the frame of a choice -/
def nbFr (alt pos : Nat) (o : Bool) (lm li : Int) (marks : Marks) : Frame :=
  { wait := .nextBranch, pc := alt, pos := pos, outermost := o, kept := { lastmark := lm, lastindex := li, whole := true, marks := marks.extract 0 (lm + 1).toNat } }
theorem i_branch {i : Nat} (pc : Nat) (hp : pc < code.size) (ho : code.getD pc 0 = 7) (hne : code.getD (pc + 1) 0 ≠ 0) (hB : B ≤ 1000) (hmk : marks.size ≤ 10) :
    Leads 1 (Sh text s pc pos marks lm li L (some i) F B) (fun m => ∃ o, Sh text s (pc + 2) pos marks lm li L (some i) (nbFr (pc + 1) pos o lm li marks :: F) (B + 11) m) := Leads.one fun m h => by
  obtain ⟨W, seen, o, hd, hW, rfl⟩ := h
  have hsz : (marks.extract 0 (lm + 1).toNat).size ≤ 10 := by rw [Array.size_extract]; omega
  refine ⟨rfl, o, W + 1 + (marks.extract 0 (lm + 1).toNat).size, seen.add 7, o, pos, by omega, ?_⟩
  rw [step_exec rfl rfl hp]
  unfold M.exec
  simp only [M.word, Nat.add_zero, ho, show ops[7]? = some Op.BRANCH from rfl, M.alternative]
  rw [show (code.getD (pc + 1) 0 == 0) = false by simpa using hne]
  simp only [Bool.false_eq_true, if_false, M.attempt, M.frame, M.keep, Option.isSome_some, if_true]
  rw [if_neg (by omega)]
  rfl
/-- the next way of a choice -/
theorem br_next {i : Nat} (alt alt' : Nat) (o : Bool) (ha : alt + code.getD alt 0 = alt') (hne : code.getD alt' 0 ≠ 0) (hB : B ≤ 1000) (hmk : marks.size ≤ 10) :
    Leads 1 (Sf text s marks lm li L (some i) (nbFr alt pos o lm li marks :: F) B) (Sh text s (alt' + 1) pos marks lm li L (some i) (nbFr alt' pos o lm li marks :: F) (B + 11)) := Leads.one fun m h => by
  obtain ⟨hd, pc, p, W, seen, o', hW, rfl⟩ := h
  have hsz : (marks.extract 0 (lm + 1).toNat).size ≤ 10 := by rw [Array.size_extract]; omega
  refine ⟨rfl, W - (1 + (marks.extract 0 (lm + 1).toNat).size) + 1 + (marks.extract 0 (lm + 1).toNat).size, seen, o, pos, by omega, ?_⟩
  unfold M.step
  simp only [Option.isSome_none, Bool.false_eq_true, if_false]
  unfold M.resume
  simp only [nbFr, Bool.false_eq_true, if_false, M.putBack, if_true, restore, M.alternative, ha]
  rw [show (code.getD alt' 0 == 0) = false by simpa using hne]
  simp only [Bool.false_eq_true, if_false, M.attempt, M.frame]
  rw [if_neg (by omega)]
theorem br_end {i : Nat} (alt alt' : Nat) (o : Bool) (ha : alt + code.getD alt 0 = alt') (hz : code.getD alt' 0 = 0) :
    Leads 1 (Sf text s marks lm li L (some i) (nbFr alt pos o lm li marks :: F) B) (Sf text s marks lm li L (some i) F B) := Leads.one fun m h => by
  obtain ⟨hd, pc, p, W, seen, o', hW, rfl⟩ := h
  refine ⟨rfl, hd, alt, pos, W - (1 + (marks.extract 0 (lm + 1).toNat).size), seen, o, by omega, ?_⟩
  unfold M.step
  simp only [Option.isSome_none, Bool.false_eq_true, if_false]
  unfold M.resume
  simp only [nbFr, Bool.false_eq_true, if_false, M.putBack, if_true, restore, M.alternative, ha]
  rw [show (code.getD alt' 0 == 0) = true by simpa using hz]
  rfl
/-- too few for many -/
theorem i_many_no (pc most : Nat) (hp : pc < code.size) (ho : code.getD pc 0 = 24) (hl : code.getD (pc + 2) 0 = 1) (hm : code.getD (pc + 3) 0 = most)
    (hno : pos < text.size → Acc (pc + 4) (text.getD pos 0) false) :
    Leads 1 (Sh text s pc pos marks lm li L inner F B) (Sf text s marks lm li L inner F B) := Leads.one fun m h => by
  obtain ⟨W, seen, o, hd, hW, rfl⟩ := h
  have hroom : ((text.size : Int) - (pos : Int)).toNat = text.size - pos := by omega
  by_cases hlt : pos < text.size
  · obtain ⟨seen', hr⟩ := run_yes (text := text) (pc + 4) 0 (min most (text.size - pos)) pos 0 ((seen.add 24).add (code.getD (pc + 4) 0)) (by omega) (fun j hj => absurd hj (Nat.not_lt_zero _)) (.inr (hno hlt))
    rw [Nat.zero_add] at hr
    refine ⟨rfl, hd, pc, pos, W, seen', o, hW, ?_⟩
    rw [step_exec rfl rfl hp]
    unfold M.exec
    simp only [M.word, Nat.add_zero, ho, hl, hm, show ops[24]? = some Op.REPEAT_ONE from rfl, hroom, hr, Bool.false_eq_true, if_false]
    rw [if_neg (by omega)]
    rfl
  · refine ⟨rfl, hd, pc, pos, W, seen.add 24, o, hW, ?_⟩
    rw [step_exec rfl rfl hp]
    unfold M.exec
    simp only [M.word, Nat.add_zero, ho, hl, hm, show ops[24]? = some Op.REPEAT_ONE from rfl]
    rw [if_pos (by omega)]
    rfl
theorem i_success (pc : Nat) (hp : pc < code.size) (ho : code.getD pc 0 = 1) :
    Leads 1 (Sh text s pc pos marks lm li L inner F B) (Sa true text s marks lm li L inner F B pos) := Leads.one fun m h => by
  obtain ⟨W, seen, o, hd, hW, rfl⟩ := h
  refine ⟨rfl, pc, pos, W, seen.add 1, o, hW, ?_⟩
  rw [step_exec rfl rfl hp]
  unfold M.exec
  simp only [M.word, Nat.add_zero, ho, show ops[1]? = some Op.SUCCESS from rfl]
  cases o <;> rfl
end

def yesW : Wait → Bool
  | .nextStart | .nextBranch | .giveBack | .closeLoop | .maxMore | .maxTail => true
  | _ => false
def Yes (F : List Frame) : Prop := ∀ f ∈ F, yesW f.wait = true
/-- found -/
def Done (s e : Nat) (marks : Marks) (lm li : Int) (m : M) : Prop := m.outcome = some .matched ∧ m.start = s ∧ m.handed = e ∧ m.marks = marks ∧ m.lastmark = lm ∧ m.lastindex = li
theorem pop_one {text : Array Nat} {s e : Nat} {marks : Marks} {lm li : Int} {L : Array Loop} {inner : Option Nat} {f : Frame} {F : List Frame} {B : Nat} (hf : yesW f.wait = true) :
    Leads 1 (Sa true text s marks lm li L inner (f :: F) B e) (fun m => ∃ L' inner', Sa true text s marks lm li L' inner' F B e m) := Leads.one fun m h => by
  obtain ⟨pc, p, W, seen, o, hW, rfl⟩ := h
  obtain ⟨wait, fpc, fpos, fo, fc, fk, fl, fb⟩ := f
  refine ⟨rfl, ?_⟩
  unfold M.step
  simp only [Option.isSome_none, Bool.false_eq_true, if_false]
  unfold M.resume
  cases wait <;> first | (cases hf; done) | skip
  all_goals simp only [if_true]
  · exact ⟨_, _, _, _, W - (1 + fk.marks.size), _, _, by omega, rfl⟩
  · exact ⟨_, _, _, _, W - (1 + fk.marks.size), _, _, by omega, rfl⟩
  · exact ⟨_, _, _, _, W - (1 + fk.marks.size), _, _, by omega, rfl⟩
  · exact ⟨_, _, _, _, W - (1 + fk.marks.size), _, _, by omega, rfl⟩
  · exact ⟨_, _, _, _, W - (1 + fk.marks.size), _, _, by omega, rfl⟩
  · exact ⟨_, _, _, _, W - (1 + fk.marks.size), _, _, by omega, rfl⟩
theorem pop_all {text : Array Nat} {s e : Nat} {marks : Marks} {lm li : Int} {B : Nat} : ∀ {F : List Frame} {L : Array Loop} {inner : Option Nat}, Yes F →
    Leads (F.length + 1) (Sa true text s marks lm li L inner F B e) (Done s e marks lm li)
  | [], L, inner, _ => Leads.one fun m h => by
    obtain ⟨pc, p, W, seen, o, hW, rfl⟩ := h
    exact ⟨rfl, rfl, rfl, rfl, rfl, rfl, rfl⟩
  | f :: F, L, inner, h => by
    rw [show (f :: F).length + 1 = 1 + (F.length + 1) by simp; omega]
    refine (pop_one (h f List.mem_cons_self)).trans fun m hm => ?_
    obtain ⟨L', inner', hm⟩ := hm
    exact pop_all (fun g hg => h g (List.mem_cons_of_mem _ hg)) m hm
end Mine.Rx
end
section
set_option maxRecDepth 100000
namespace Mine.Rx
open PySem.Sre PySem.Sre.M

def Has (text : Array Nat) (p : Nat) (cs : List Nat) : Prop := p + cs.length ≤ text.size ∧ ∀ j (h : j < cs.length), text.getD (p + j) 0 = cs[j]
theorem Has.left {text : Array Nat} {p : Nat} {a b : List Nat} (h : Has text p (a ++ b)) : Has text p a :=
  ⟨by have := h.1; rw [List.length_append] at this; omega, fun j hj => by rw [h.2 j (by rw [List.length_append]; omega), List.getElem_append_left hj]⟩
theorem Has.right {text : Array Nat} {p : Nat} {a b : List Nat} (h : Has text p (a ++ b)) : Has text (p + a.length) b :=
  ⟨by have := h.1; rw [List.length_append] at this; omega, fun j hj => by
    rw [Nat.add_assoc, h.2 (a.length + j) (by rw [List.length_append]; omega), List.getElem_append_right (by omega)]
    congr 1; omega⟩
theorem Has.head {text : Array Nat} {p c : Nat} {cs : List Nat} (h : Has text p (c :: cs)) : p < text.size ∧ text.getD p 0 = c :=
  ⟨by have := h.1; rw [List.length_cons] at this; omega, by have := h.2 0 (by simp); simpa using this⟩
theorem Has.tail {text : Array Nat} {p c : Nat} {cs : List Nat} (h : Has text p (c :: cs)) : Has text (p + 1) cs :=
  Has.right (a := [c]) h

theorem markOf_size (marks : Marks) (lm : Int) (i p : Nat) : (markOf marks lm i p).size = marks.size := by
  unfold markOf
  rw [Array.size_setIfInBounds]
  split
  · rfl
  · suffices h : ∀ (l : List Nat) (a : Marks), (l.foldl (fun (a : Array (Option Nat)) (j : Nat) => if (j : Int) > lm then a.setIfInBounds j none else a) a).size = a.size from h _ _
    intro l
    induction l with
    | nil => intro a; rfl
    | cons j r ih =>
      intro a
      rw [List.foldl_cons, ih]
      split
      · rw [Array.size_setIfInBounds]
      · rfl

/-- between two parts of the pattern -/
def G (text : Array Nat) (s : Nat) (n pc pos : Nat) (marks : Marks) (lm li : Int) (m : M) : Prop :=
  ∃ L F, Yes F ∧ F.length ≤ n ∧ Sh text s pc pos marks lm li L none F (20 * n + 20) m

section
variable {text : Array Nat} {s pos n : Nat} {marks : Marks} {lm li : Int}

theorem Sh.bound {pc : Nat} {L : Array Loop} {inner : Option Nat} {F : List Frame} {B B' : Nat} {m : M} (h : Sh text s pc pos marks lm li L inner F B m) (l : B ≤ B') : Sh text s pc pos marks lm li L inner F B' m := by
  obtain ⟨W, seen, o, hd, hW, e⟩ := h
  exact ⟨W, seen, o, hd, by omega, e⟩
theorem Yes.cons {f : Frame} {F : List Frame} (h : yesW f.wait = true) (y : Yes F) : Yes (f :: F) := fun g hg => by
  rcases List.mem_cons.mp hg with rfl | hg
  · exact h
  · exact y g hg
theorem leadsG {k : Nat} {pc pos : Nat} {Q : M → Prop} (h : ∀ L F, Yes F → F.length ≤ n → Leads k (Sh text s pc pos marks lm li L none F (20 * n + 20)) Q) : Leads k (G text s n pc pos marks lm li) Q := fun m hm => by
  obtain ⟨L, F, y, l, hs⟩ := hm
  exact h L F y l m hs
theorem leadsE {k : Nat} {α : Sort _} {P : α → M → Prop} {Q : M → Prop} (h : ∀ a, Leads k (P a) Q) : Leads k (fun m => ∃ a, P a m) Q := fun m ⟨a, hm⟩ => h a m hm
theorem leadsA {k : Nat} {c : Prop} {P : M → Prop} {Q : M → Prop} (h : c → Leads k P Q) : Leads k (fun m => c ∧ P m) Q := fun m ⟨a, hm⟩ => h a m hm

/-- no name -/
theorem part_noname (hn : n ≤ 30) (hmk : marks.size ≤ 10) (hc : pos < text.size → text.getD pos 0 ≠ 40) : Leads 4 (G text s n 11 pos marks lm li) (G text s (n + 2) 34 pos marks lm li) := leadsG fun L F y l =>
  (opt_enter 11 33 (by decide) rfl rfl (by decide) rfl rfl rfl (by omega) hmk).trans (leadsE fun o => leadsE fun cl => leadsA fun hcl =>
    ((lit_no 15 40 (by decide) rfl rfl hc).trans (opt_fail 11 33 o cl (by omega) hcl rfl)).weaken fun m ⟨mt, cl', h1, h2, hs⟩ =>
      ⟨_, _, Yes.cons (by rw [h1]; rfl) (Yes.cons (by rw [h2]; rfl) y), by simp; omega, hs.bound (by omega)⟩)
/-- a name -/
theorem part_name (hn : n ≤ 30) (hmk : marks.size ≤ 10) (cs : List Nat) (hcs : ∀ c ∈ cs, Acc 23 c true) (hend : Acc 23 41 false) (hlen : cs.length ≤ 100) (hh : Has text pos (40 :: (cs ++ [41]))) :
    Leads 8 (G text s n 11 pos marks lm li)
      (G text s (n + 4) 34 (pos + 1 + cs.length + 1) (markOf (markOf marks lm 0 (pos + 1)) (max lm (0 : Nat)) 1 (pos + 1 + cs.length)) (max (max lm (0 : Nat)) (1 : Nat)) 1) := leadsG fun L F y l => by
  have hr := Has.left hh.tail
  have he := Has.right hh.tail
  refine (opt_enter 11 33 (by decide) rfl rfl (by decide) rfl rfl rfl (by omega) hmk).trans (leadsE fun o => leadsE fun cl => leadsA fun hcl => ?_) (b := 6)
  refine (lit_yes 15 40 (by decide) rfl rfl hh.head.1 hh.head.2).trans ?_ (b := 5)
  refine (i_mark 17 0 (by decide) rfl rfl).trans ?_ (b := 4)
  refine (i_many 19 29 0 4294967295 cs.length (by decide) rfl rfl rfl rfl (by omega) (by rw [markOf_size]; exact hmk) (Nat.zero_le _) (by omega) hr.1 (fun j hj => by rw [hr.2 j hj]; exact hcs _ (List.getElem_mem hj))
    (.inr (.inr (by rw [he.head.2]; exact hend)))).trans (leadsE fun fr => leadsA fun hfr => ?_) (b := 3)
  refine (i_mark 29 1 (by decide) rfl rfl).trans ?_ (b := 2)
  refine (lit_yes 31 41 (by decide) rfl rfl he.head.1 he.head.2).trans ?_ (b := 1)
  refine (opt_done 11 33 pos (by decide) rfl rfl rfl (by omega) rfl rfl).weaken fun m ⟨mt, h1, hs⟩ => ?_
  exact ⟨_, _, Yes.cons (by rw [h1]; rfl) (Yes.cons (by rw [hfr]; rfl) (Yes.cons rfl (Yes.cons (by rw [hcl]; rfl) y))), by simp; omega, hs.bound (by omega)⟩
/-- a mark between two parts -/
theorem part_mark (pc i : Nat) (hp : pc < code.size) (ho : code.getD pc 0 = 17) (hi : code.getD (pc + 1) 0 = i) :
    Leads 1 (G text s n pc pos marks lm li) (G text s n (pc + 2) pos (markOf marks lm i pos) (max lm i) (if i % 2 == 1 then (i / 2 + 1 : Nat) else li)) := leadsG fun L F y l =>
  (i_mark pc i hp ho hi).weaken fun m hs => ⟨L, F, y, l, hs⟩
/-- at most one sign of a set -/
theorem part_one (pc k : Nat) (hp : pc < code.size) (ho : code.getD pc 0 = 24) (hk : pc + 1 + code.getD (pc + 1) 0 = k) (h0 : code.getD (pc + 2) 0 = 0) (h1 : code.getD (pc + 3) 0 = 1) (hn : n ≤ 30) (hmk : marks.size ≤ 10)
    (c : Option Nat) (hy : ∀ x, c = some x → pos < text.size ∧ text.getD pos 0 = x ∧ Acc (pc + 4) x true) (hno : c = none → pos < text.size ∧ Acc (pc + 4) (text.getD pos 0) false) :
    Leads 1 (G text s n pc pos marks lm li) (G text s (n + 1) k (pos + c.toList.length) marks lm li) := leadsG fun L F y l => by
  cases c with
  | none =>
    have h := hno rfl
    exact (i_many pc k 0 1 0 hp ho hk h0 h1 (by omega) hmk (Nat.le_refl _) (by omega) (by omega) (fun j hj => absurd hj (Nat.not_lt_zero _)) (.inr (.inr h.2))).weaken fun m ⟨fr, hfr, hs⟩ =>
      ⟨_, _, Yes.cons (by rw [hfr]; rfl) y, by simp; omega, hs.bound (by omega)⟩
  | some x =>
    obtain ⟨h1', h2, h3⟩ := hy x rfl
    exact (i_many pc k 0 1 1 hp ho hk h0 h1 (by omega) hmk (by omega) (by omega) (by omega) (fun j hj => by rw [show pos + j = pos by omega, h2]; exact h3) (.inl rfl)).weaken fun m ⟨fr, hfr, hs⟩ =>
      ⟨_, _, Yes.cons (by rw [hfr]; rfl) y, by simp; omega, hs.bound (by omega)⟩

/-- no width -/
theorem part_nowidth (hn : n ≤ 30) (hmk : marks.size ≤ 10) (h1 : pos < text.size → text.getD pos 0 ≠ 42) (h2 : pos < text.size → Acc 68 (text.getD pos 0) false) :
    Leads 8 (G text s n 53 pos marks lm li) (G text s (n + 2) 78 pos marks lm li) := leadsG fun L F y l => by
  refine (opt_enter 53 77 (by decide) rfl rfl (by decide) rfl rfl rfl (by omega) hmk).trans (leadsE fun o => leadsE fun cl => leadsA fun hcl => ?_) (b := 6)
  refine (i_branch 57 (by decide) rfl (by decide) (by omega) hmk).trans (leadsE fun o' => ?_) (b := 5)
  refine (lit_no 59 42 (by decide) rfl rfl h1).trans ?_ (b := 4)
  refine (br_next 58 63 o' rfl (by decide) (by omega) hmk).trans ?_ (b := 3)
  refine (i_many_no 64 4294967295 (by decide) rfl rfl rfl h2).trans ?_ (b := 2)
  refine (br_end 63 76 o' rfl rfl).trans ?_ (b := 1)
  exact (opt_fail 53 77 o cl (by omega) hcl rfl).weaken fun m ⟨mt, cl', e1, e2, hs⟩ =>
      ⟨_, _, Yes.cons (by rw [e1]; rfl) (Yes.cons (by rw [e2]; rfl) y), by simp; omega, hs.bound (by omega)⟩
/-- a star for the width -/
theorem part_starwidth (hn : n ≤ 30) (hmk : marks.size ≤ 10) (h0 : pos < text.size) (h1 : text.getD pos 0 = 42) :
    Leads 6 (G text s n 53 pos marks lm li) (G text s (n + 4) 78 (pos + 1) marks lm li) := leadsG fun L F y l => by
  refine (opt_enter 53 77 (by decide) rfl rfl (by decide) rfl rfl rfl (by omega) hmk).trans (leadsE fun o => leadsE fun cl => leadsA fun hcl => ?_) (b := 4)
  refine (i_branch 57 (by decide) rfl (by decide) (by omega) hmk).trans (leadsE fun o' => ?_) (b := 3)
  refine (lit_yes 59 42 (by decide) rfl rfl h0 h1).trans ?_ (b := 2)
  refine (i_jump 61 77 (by decide) rfl rfl).trans ?_ (b := 1)
  exact (opt_done 53 77 pos (by decide) rfl rfl rfl (by omega) rfl rfl).weaken fun m ⟨mt, e1, hs⟩ =>
    ⟨_, _, Yes.cons (by rw [e1]; rfl) (Yes.cons rfl (Yes.cons rfl (Yes.cons (by rw [hcl]; rfl) y))), by simp; omega, hs.bound (by omega)⟩
/-- figures for the width -/
theorem part_figwidth (hn : n ≤ 25) (hmk : marks.size ≤ 10) (ds : List Nat) (hlen : 1 ≤ ds.length) (hlen' : ds.length ≤ 100) (hh : Has text pos ds) (hds : ∀ c ∈ ds, c ≠ 42 ∧ Acc 68 c true)
    (hend : pos + ds.length < text.size → Acc 68 (text.getD (pos + ds.length) 0) false) :
    Leads 8 (G text s n 53 pos marks lm li) (G text s (n + 5) 78 (pos + ds.length) marks lm li) := leadsG fun L F y l => by
  obtain ⟨d, r, rfl⟩ : ∃ d r, ds = d :: r := by cases ds with
    | nil => exact absurd hlen (by simp)
    | cons d r => exact ⟨d, r, rfl⟩
  refine (opt_enter 53 77 (by decide) rfl rfl (by decide) rfl rfl rfl (by omega) hmk).trans (leadsE fun o => leadsE fun cl => leadsA fun hcl => ?_) (b := 6)
  refine (i_branch 57 (by decide) rfl (by decide) (by omega) hmk).trans (leadsE fun o' => ?_) (b := 5)
  refine (lit_no 59 42 (by decide) rfl rfl (fun _ => by rw [hh.head.2]; exact (hds d List.mem_cons_self).1)).trans ?_ (b := 4)
  refine (br_next 58 63 o' rfl (by decide) (by omega) hmk).trans ?_ (b := 3)
  refine (i_many 64 74 1 4294967295 (d :: r).length (by decide) rfl rfl rfl rfl (by omega) hmk hlen (by omega) hh.1 (fun j hj => by rw [hh.2 j hj]; exact (hds _ (List.getElem_mem hj)).2) (by
    by_cases h : pos + (d :: r).length = text.size
    · exact .inr (.inl h)
    · exact .inr (.inr (hend (by have := hh.1; omega))))).trans (leadsE fun fr => leadsA fun hfr => ?_) (b := 2)
  refine (i_jump 74 77 (by decide) rfl rfl).trans ?_ (b := 1)
  exact (opt_done 53 77 pos (by decide) rfl rfl rfl (by omega) rfl rfl).weaken fun m ⟨mt, e1, hs⟩ =>
    ⟨_, _, Yes.cons (by rw [e1]; rfl) (Yes.cons (by rw [hfr]; rfl) (Yes.cons rfl (Yes.cons rfl (Yes.cons (by rw [hcl]; rfl) y)))), by simp; omega, hs.bound (by omega)⟩

/-- no precision -/
theorem part_noprec (hn : n ≤ 30) (hmk : marks.size ≤ 10) (h1 : pos < text.size → text.getD pos 0 ≠ 46) : Leads 4 (G text s n 78 pos marks lm li) (G text s (n + 2) 105 pos marks lm li) := leadsG fun L F y l =>
  (opt_enter 78 104 (by decide) rfl rfl (by decide) rfl rfl rfl (by omega) hmk).trans (leadsE fun o => leadsE fun cl => leadsA fun hcl =>
    ((lit_no 82 46 (by decide) rfl rfl h1).trans (opt_fail 78 104 o cl (by omega) hcl rfl)).weaken fun m ⟨mt, cl', e1, e2, hs⟩ =>
      ⟨_, _, Yes.cons (by rw [e1]; rfl) (Yes.cons (by rw [e2]; rfl) y), by simp; omega, hs.bound (by omega)⟩)
/-- a star for the precision -/
theorem part_starprec (hn : n ≤ 25) (hmk : marks.size ≤ 10) (hh : Has text pos [46, 42]) :
    Leads 8 (G text s n 78 pos marks lm li) (G text s (n + 4) 105 (pos + 2) marks lm li) := leadsG fun L F y l => by
  refine (opt_enter 78 104 (by decide) rfl rfl (by decide) rfl rfl rfl (by omega) hmk).trans (leadsE fun o => leadsE fun cl => leadsA fun hcl => ?_) (b := 6)
  refine (lit_yes 82 46 (by decide) rfl rfl hh.head.1 hh.head.2).trans ?_ (b := 5)
  refine (i_branch 84 (by decide) rfl (by decide) (by omega) hmk).trans (leadsE fun o' => ?_) (b := 4)
  refine (lit_yes 86 42 (by decide) rfl rfl hh.tail.head.1 hh.tail.head.2).trans ?_ (b := 3)
  refine (i_jump 88 104 (by decide) rfl rfl).trans ?_ (b := 2)
  exact ((opt_done 78 104 pos (by decide) rfl rfl rfl (by omega) rfl rfl).weaken fun m ⟨mt, e1, hs⟩ =>
    ⟨_, _, Yes.cons (by rw [e1]; rfl) (Yes.cons rfl (Yes.cons rfl (Yes.cons (by rw [hcl]; rfl) y))), by simp; omega, hs.bound (by omega)⟩).mono (by omega)
/-- figures for the precision -/
theorem part_figprec (hn : n ≤ 25) (hmk : marks.size ≤ 10) (d : Nat) (hd : d ≠ 42) (hacc : Acc 95 d true) (hh : Has text pos [46, d]) (hend : pos + 2 < text.size → Acc 95 (text.getD (pos + 2) 0) false) :
    Leads 9 (G text s n 78 pos marks lm li) (G text s (n + 5) 105 (pos + 2) marks lm li) := leadsG fun L F y l => by
  refine (opt_enter 78 104 (by decide) rfl rfl (by decide) rfl rfl rfl (by omega) hmk).trans (leadsE fun o => leadsE fun cl => leadsA fun hcl => ?_) (b := 7)
  refine (lit_yes 82 46 (by decide) rfl rfl hh.head.1 hh.head.2).trans ?_ (b := 6)
  refine (i_branch 84 (by decide) rfl (by decide) (by omega) hmk).trans (leadsE fun o' => ?_) (b := 5)
  refine (lit_no 86 42 (by decide) rfl rfl (fun _ => by rw [hh.tail.head.2]; exact hd)).trans ?_ (b := 4)
  refine (br_next 85 90 o' rfl (by decide) (by omega) hmk).trans ?_ (b := 3)
  have h1 := hh.1
  simp only [List.length_cons, List.length_nil] at h1
  refine (i_many 91 101 1 4294967295 1 (by decide) rfl rfl rfl rfl (by omega) hmk (by omega) (by omega) (by omega) (fun j hj => by rw [show pos + 1 + j = pos + 1 by omega, hh.tail.head.2]; exact hacc) (by
    by_cases h : pos + 1 + 1 = text.size
    · exact .inr (.inl h)
    · exact .inr (.inr (hend (by omega))))).trans (leadsE fun fr => leadsA fun hfr => ?_) (b := 2)
  refine (i_jump 101 104 (by decide) rfl rfl).trans ?_ (b := 1)
  exact (opt_done 78 104 pos (by decide) rfl rfl rfl (by omega) rfl rfl).weaken fun m ⟨mt, e1, hs⟩ =>
    ⟨_, _, Yes.cons (by rw [e1]; rfl) (Yes.cons (by rw [hfr]; rfl) (Yes.cons rfl (Yes.cons rfl (Yes.cons (by rw [hcl]; rfl) y)))), by simp; omega, hs.bound (by omega)⟩

/-- the letter, and the end -/
theorem part_end (hlt : pos < text.size) (hacc : Acc 126 (text.getD pos 0) true) (hn : n ≤ 60) :
    Leads 66 (G text s n 124 pos marks lm li) (Done s (pos + 1) (markOf (markOf marks lm 4 pos) (max lm (4 : Nat)) 5 (pos + 1)) (max (max lm (4 : Nat)) (5 : Nat)) 3) := leadsG fun L F y l => by
  refine Leads.mono ?_ (show 1 + (1 + (1 + (1 + (F.length + 1)))) ≤ 66 by omega)
  refine (i_mark 124 4 (by decide) rfl rfl).trans ?_
  refine (i_in 126 138 (by decide) rfl rfl hlt hacc).trans ?_
  refine (i_mark 138 5 (by decide) rfl rfl).trans ?_
  refine (i_success 140 (by decide) rfl).trans ?_
  exact pop_all y
end
end Mine.Rx
end
section
set_option maxRecDepth 100000
namespace Mine.Rx
open PySem.Sre PySem.Sre.M

def C7 : List Nat := [100, 105, 111, 117, 120, 88, 101, 69, 102, 70, 103, 71, 99, 114, 115, 37]
def C6 : List Nat := [108, 104, 100, 105, 111, 117, 120, 88, 101, 69, 102, 70, 103, 71, 99, 114, 115, 37]
def C5 : List Nat := [46, 108, 104, 100, 105, 111, 117, 120, 88, 101, 69, 102, 70, 103, 71, 99, 114, 115, 37]
def C4 : List Nat := [53, 42, 49, 46, 108, 104, 100, 105, 111, 117, 120, 88, 101, 69, 102, 70, 103, 71, 99, 114, 115, 37]
def C3 : List Nat := [45, 48, 43, 32, 35, 53, 42, 49, 46, 108, 104, 100, 105, 111, 117, 120, 88, 101, 69, 102, 70, 103, 71, 99, 114, 115, 37]
def Fl : List (List Nat) := [[], [45], [48], [43], [32], [35]]
def Wd : List (List Nat) := [[], [53], [42], [49, 50]]
def Pr : List (List Nat) := [[], [46, 50], [46, 42]]
def Sz : List (List Nat) := [[], [108], [104]]

theorem acc_flag_no : ∀ x ∈ C4, Acc 40 x false := by
  unfold C4; repeat (refine List.forall_mem_cons.mpr ⟨fun seen => ⟨_, rfl⟩, ?_⟩)
  exact List.forall_mem_nil _
theorem acc_flag : ∀ x ∈ [45, 48, 43, 32, 35], Acc 40 x true := by
  repeat (refine List.forall_mem_cons.mpr ⟨fun seen => ⟨_, rfl⟩, ?_⟩)
  exact List.forall_mem_nil _
theorem acc_fig_no : ∀ x ∈ C5, Acc 68 x false := by
  unfold C5; repeat (refine List.forall_mem_cons.mpr ⟨fun seen => ⟨_, rfl⟩, ?_⟩)
  exact List.forall_mem_nil _
theorem acc_fig : ∀ x ∈ [53, 49, 50], Acc 68 x true := by
  repeat (refine List.forall_mem_cons.mpr ⟨fun seen => ⟨_, rfl⟩, ?_⟩)
  exact List.forall_mem_nil _
theorem acc_fig2_no : ∀ x ∈ C6, Acc 95 x false := by
  unfold C6; repeat (refine List.forall_mem_cons.mpr ⟨fun seen => ⟨_, rfl⟩, ?_⟩)
  exact List.forall_mem_nil _
theorem acc_fig2 : ∀ x ∈ [50], Acc 95 x true := by
  repeat (refine List.forall_mem_cons.mpr ⟨fun seen => ⟨_, rfl⟩, ?_⟩)
  exact List.forall_mem_nil _
theorem acc_size_no : ∀ x ∈ C7, Acc 109 x false := by
  unfold C7; repeat (refine List.forall_mem_cons.mpr ⟨fun seen => ⟨_, rfl⟩, ?_⟩)
  exact List.forall_mem_nil _
theorem acc_size : ∀ x ∈ [108, 104], Acc 109 x true := by
  repeat (refine List.forall_mem_cons.mpr ⟨fun seen => ⟨_, rfl⟩, ?_⟩)
  exact List.forall_mem_nil _
theorem acc_letter : ∀ x ∈ C7, Acc 126 x true := by
  unfold C7; repeat (refine List.forall_mem_cons.mpr ⟨fun seen => ⟨_, rfl⟩, ?_⟩)
  exact List.forall_mem_nil _
theorem acc_word : ∀ x ∈ [110, 111, 102, 120, 95, 49, 109], Acc 23 x true := by
  repeat (refine List.forall_mem_cons.mpr ⟨fun seen => ⟨_, rfl⟩, ?_⟩)
  exact List.forall_mem_nil _
theorem acc_word_end : Acc 23 41 false := fun seen => ⟨_, rfl⟩
theorem no_star : ∀ x ∈ C5, x ≠ 42 := by decide
theorem no_dot : ∀ x ∈ C6, x ≠ 46 := by decide
theorem no_open : ∀ x ∈ C3, x ≠ 40 := by decide

theorem head6 {sz : List Nat} {c : Nat} (hs : sz ∈ Sz) (hc : c ∈ C7) : ∃ x r, sz ++ [c] = x :: r ∧ x ∈ C6 := by
  have h : ∀ x ∈ C7, x ∈ C6 := by decide
  simp only [Sz, List.mem_cons, List.not_mem_nil, or_false] at hs
  rcases hs with rfl | rfl | rfl
  · exact ⟨c, [], rfl, h c hc⟩
  · exact ⟨_, _, rfl, by decide⟩
  · exact ⟨_, _, rfl, by decide⟩
theorem head5 {pr sz : List Nat} {c : Nat} (hp : pr ∈ Pr) (hs : sz ∈ Sz) (hc : c ∈ C7) : ∃ x r, pr ++ (sz ++ [c]) = x :: r ∧ x ∈ C5 := by
  have h : ∀ x ∈ C6, x ∈ C5 := by decide
  simp only [Pr, List.mem_cons, List.not_mem_nil, or_false] at hp
  rcases hp with rfl | rfl | rfl
  · obtain ⟨x, r, e, hx⟩ := head6 hs hc
    exact ⟨x, r, e, h x hx⟩
  · exact ⟨_, _, rfl, by decide⟩
  · exact ⟨_, _, rfl, by decide⟩
theorem head4 {wd pr sz : List Nat} {c : Nat} (hw : wd ∈ Wd) (hp : pr ∈ Pr) (hs : sz ∈ Sz) (hc : c ∈ C7) : ∃ x r, wd ++ (pr ++ (sz ++ [c])) = x :: r ∧ x ∈ C4 := by
  have h : ∀ x ∈ C5, x ∈ C4 := by decide
  simp only [Wd, List.mem_cons, List.not_mem_nil, or_false] at hw
  rcases hw with rfl | rfl | rfl | rfl
  · obtain ⟨x, r, e, hx⟩ := head5 hp hs hc
    exact ⟨x, r, e, h x hx⟩
  · exact ⟨_, _, rfl, by decide⟩
  · exact ⟨_, _, rfl, by decide⟩
  · exact ⟨_, _, rfl, by decide⟩
theorem head3 {fl wd pr sz : List Nat} {c : Nat} (hf : fl ∈ Fl) (hw : wd ∈ Wd) (hp : pr ∈ Pr) (hs : sz ∈ Sz) (hc : c ∈ C7) : ∃ x r, fl ++ (wd ++ (pr ++ (sz ++ [c]))) = x :: r ∧ x ∈ C3 := by
  have h : ∀ x ∈ C4, x ∈ C3 := by decide
  simp only [Fl, List.mem_cons, List.not_mem_nil, or_false] at hf
  rcases hf with rfl | rfl | rfl | rfl | rfl | rfl
  · obtain ⟨x, r, e, hx⟩ := head4 hw hp hs hc
    exact ⟨x, r, e, h x hx⟩
  all_goals exact ⟨_, _, rfl, by decide⟩

section
variable {text : Array Nat} {s pos n : Nat} {marks : Marks} {lm li : Int} {fl wd pr sz : List Nat} {c : Nat}
theorem G.grow {a b pc : Nat} {m : M} (h : G text s a pc pos marks lm li m) (l : a ≤ b) : G text s b pc pos marks lm li m := by
  obtain ⟨L, F, y, lF, hs⟩ := h
  exact ⟨L, F, y, by omega, hs.bound (by omega)⟩
theorem at_head {x : Nat} {r l : List Nat} (h : Has text pos l) (e : l = x :: r) : pos < text.size ∧ text.getD pos 0 = x := by subst e; exact h.head

theorem part_flag (hn : n ≤ 30) (hmk : marks.size ≤ 10) (hf : fl ∈ Fl) (hw : wd ∈ Wd) (hp : pr ∈ Pr) (hs : sz ∈ Sz) (hc : c ∈ C7) (hh : Has text pos (fl ++ (wd ++ (pr ++ (sz ++ [c]))))) :
    Leads 1 (G text s n 36 pos marks lm li) (G text s (n + 1) 53 (pos + fl.length) marks lm li) := by
  simp only [Fl, List.mem_cons, List.not_mem_nil, or_false] at hf
  have one : ∀ x r, Has text pos (x :: r) → x ∈ [45, 48, 43, 32, 35] → Leads 1 (G text s n 36 pos marks lm li) (G text s (n + 1) 53 (pos + [x].length) marks lm li) := fun x r hx hm =>
    part_one 36 53 (by decide) rfl rfl rfl rfl hn hmk (some x) (fun y e => by cases e; exact ⟨hx.head.1, hx.head.2, acc_flag _ hm⟩) (fun e => by cases e)
  rcases hf with rfl | rfl | rfl | rfl | rfl | rfl
  · obtain ⟨x, r, e, hx⟩ := head4 hw hp hs hc
    have hd := at_head hh e
    exact part_one 36 53 (by decide) rfl rfl rfl rfl hn hmk none (fun y e => by cases e) (fun _ => ⟨hd.1, by rw [hd.2]; exact acc_flag_no _ hx⟩)
  all_goals exact one _ _ hh (by decide)
theorem part_width (hn : n ≤ 25) (hmk : marks.size ≤ 10) (hw : wd ∈ Wd) (hp : pr ∈ Pr) (hs : sz ∈ Sz) (hc : c ∈ C7) (hh : Has text pos (wd ++ (pr ++ (sz ++ [c])))) :
    Leads 8 (G text s n 53 pos marks lm li) (G text s (n + 5) 78 (pos + wd.length) marks lm li) := by
  obtain ⟨x, r, e, hx⟩ := head5 hp hs hc
  have hd := at_head (Has.right hh) e
  simp only [Wd, List.mem_cons, List.not_mem_nil, or_false] at hw
  rcases hw with rfl | rfl | rfl | rfl
  · exact (part_nowidth (by omega) hmk (fun _ => by rw [show text.getD pos 0 = x from hd.2]; exact no_star _ hx) (fun _ => by rw [show text.getD pos 0 = x from hd.2]; exact acc_fig_no _ hx)).weaken fun m h => h.grow (by omega)
  · exact part_figwidth hn hmk [53] (by decide) (by decide) hh.left (by intro y hy; rw [List.mem_singleton.mp hy]; exact ⟨by decide, acc_fig _ (by decide)⟩) (fun _ => by rw [hd.2]; exact acc_fig_no _ hx)
  · exact ((part_starwidth (by omega) hmk hh.head.1 hh.head.2).mono (by omega)).weaken fun m h => h.grow (by omega)
  · exact part_figwidth hn hmk [49, 50] (by decide) (by decide) hh.left (by
      refine List.forall_mem_cons.mpr ⟨⟨by decide, acc_fig _ (by decide)⟩, List.forall_mem_cons.mpr ⟨⟨by decide, acc_fig _ (by decide)⟩, List.forall_mem_nil _⟩⟩) (fun _ => by rw [hd.2]; exact acc_fig_no _ hx)
theorem part_prec (hn : n ≤ 25) (hmk : marks.size ≤ 10) (hp : pr ∈ Pr) (hs : sz ∈ Sz) (hc : c ∈ C7) (hh : Has text pos (pr ++ (sz ++ [c]))) :
    Leads 9 (G text s n 78 pos marks lm li) (G text s (n + 5) 105 (pos + pr.length) marks lm li) := by
  obtain ⟨x, r, e, hx⟩ := head6 hs hc
  have hd := at_head (Has.right hh) e
  simp only [Pr, List.mem_cons, List.not_mem_nil, or_false] at hp
  rcases hp with rfl | rfl | rfl
  · exact ((part_noprec (by omega) hmk (fun _ => by rw [show text.getD pos 0 = x from hd.2]; exact no_dot _ hx)).mono (by omega)).weaken fun m h => h.grow (by omega)
  · exact part_figprec hn hmk 50 (by decide) (acc_fig2 _ (by decide)) hh.left (fun _ => by rw [show text.getD (pos + 2) 0 = x from hd.2]; exact acc_fig2_no _ hx)
  · exact ((part_starprec hn hmk hh.left).mono (by omega)).weaken fun m h => h.grow (by omega)
theorem part_size (hn : n ≤ 30) (hmk : marks.size ≤ 10) (hs : sz ∈ Sz) (hc : c ∈ C7) (hh : Has text pos (sz ++ [c])) :
    Leads 1 (G text s n 105 pos marks lm li) (G text s (n + 1) 122 (pos + sz.length) marks lm li) := by
  simp only [Sz, List.mem_cons, List.not_mem_nil, or_false] at hs
  have one : ∀ x r, Has text pos (x :: r) → x ∈ [108, 104] → Leads 1 (G text s n 105 pos marks lm li) (G text s (n + 1) 122 (pos + [x].length) marks lm li) := fun x r hx hm =>
    part_one 105 122 (by decide) rfl rfl rfl rfl hn hmk (some x) (fun y e => by cases e; exact ⟨hx.head.1, hx.head.2, acc_size _ hm⟩) (fun e => by cases e)
  rcases hs with rfl | rfl | rfl
  · exact part_one 105 122 (by decide) rfl rfl rfl rfl hn hmk none (fun y e => by cases e) (fun _ => ⟨hh.head.1, by rw [hh.head.2]; exact acc_size_no _ hc⟩)
  all_goals exact one _ _ hh (by decide)

/-- from behind the name to the end -/
theorem part_rest (hn : n ≤ 10) (hmk : marks.size ≤ 10) (hf : fl ∈ Fl) (hw : wd ∈ Wd) (hp : pr ∈ Pr) (hs : sz ∈ Sz) (hc : c ∈ C7) (hh : Has text pos (fl ++ (wd ++ (pr ++ (sz ++ [c]))))) (e : Nat) (he : e = pos + (fl ++ (wd ++ (pr ++ sz))).length) :
    Leads 88 (G text s n 34 pos marks lm li)
      (Done s (e + 1) (markOf (markOf (markOf (markOf marks lm 2 pos) (max lm (2 : Nat)) 3 e) (max (max lm (2 : Nat)) (3 : Nat)) 4 e) (max (max (max lm (2 : Nat)) (3 : Nat)) (4 : Nat)) 5 (e + 1)) (max (max (max (max lm (2 : Nat)) (3 : Nat)) (4 : Nat)) (5 : Nat)) 3) := by
  have m1 : (markOf marks lm 2 pos).size ≤ 10 := by rw [markOf_size]; exact hmk
  have e' : pos + fl.length + wd.length + pr.length + sz.length = e := by subst he; simp only [List.length_append]; omega
  have hl := Has.right (Has.right (Has.right (Has.right hh)))
  rw [e'] at hl
  refine (part_mark 34 2 (by decide) rfl rfl).trans ?_ (b := 87)
  refine (part_flag (by omega) m1 hf hw hp hs hc hh).trans ?_ (b := 86)
  refine (part_width (by omega) m1 hw hp hs hc (Has.right hh)).trans ?_ (b := 78)
  refine (part_prec (by omega) m1 hp hs hc (Has.right (Has.right hh))).trans ?_ (b := 69)
  refine (part_size (by omega) m1 hs hc (Has.right (Has.right (Has.right hh)))).trans ?_ (b := 68)
  rw [e']
  refine (part_mark 122 3 (by decide) rfl rfl).trans ?_ (b := 67)
  refine Leads.mono ?_ (show 66 ≤ 67 by omega)
  exact part_end hl.head.1 (by rw [hl.head.2]; exact acc_letter _ hc) (by omega)
end
end Mine.Rx
end
section
set_option maxRecDepth 100000
namespace Mine.Rx
open PySem.Sre PySem.Sre.M

def none6 : Marks := #[none, none, none, none, none, none]
def att (text : Array Nat) (s : Nat) (o : Bool) (seen : Seen) : M :=
  { code := code, text := text, lim := text.size, start := s, lastStart := text.size, pc := 9, pos := s, handed := s, outermost := o, marks := none6,
    frames := [{ wait := .nextStart, pc := 9, pos := s, outermost := o }], weight := 1, seen := seen }
def A (text : Array Nat) (s : Nat) (m : M) : Prop := ∃ o seen, m = att text s o seen
def Failed (m : M) : Prop := m.outcome = some .failed

theorem att_sh {text : Array Nat} {s : Nat} {m : M} (h : A text s m) : ∃ o, Sh text s 9 s none6 (-1) (-1) #[] none [{ wait := .nextStart, pc := 9, pos := s, outermost := o }] 1 m := by
  obtain ⟨o, seen, rfl⟩ := h
  exact ⟨o, 1, seen, o, s, Nat.le_refl _, rfl⟩

theorem fall (text : Array Nat) (s : Nat) (h : s < text.size → text.getD s 0 ≠ 37) : Leads 1 (A text s) (fun m => ∃ o seen, m = { att text s o seen with answer := some false }) := Leads.one fun m hm => by
  obtain ⟨o, seen, rfl⟩ := hm
  refine ⟨rfl, o, seen.add 16, ?_⟩
  rw [step_exec rfl rfl (by show 9 < code.size; decide)]
  unfold M.exec
  simp only [M.word, att, Nat.add_zero, show code.getD 9 0 = 16 from rfl, show ops[16]? = some Op.LITERAL from rfl, accepts, show code.getD (9 + 1) 0 = 37 from rfl, ge_iff_le]
  by_cases hlt : s < text.size
  · rw [if_neg (Nat.not_le.mpr hlt), show (text.getD s 0 == 37) = false from by simpa using h hlt]
    rfl
  · rw [if_pos (Nat.not_lt.mp hlt)]
    rfl
theorem skip (text : Array Nat) (s : Nat) (hlt : s < text.size) (h : text.getD s 0 ≠ 37) : Leads 2 (A text s) (A text (s + 1)) :=
  (fall text s fun _ => h).trans (Leads.one fun m hm => by
    obtain ⟨o, seen, rfl⟩ := hm
    refine ⟨rfl, false, seen, ?_⟩
    unfold M.step
    simp only [att, Option.isSome_none, Bool.false_eq_true, if_false]
    unfold M.resume
    simp only [Bool.false_eq_true, if_false]
    rw [if_pos hlt]
    rfl)
theorem ends (text : Array Nat) : Leads 3 (A text text.size) Failed :=
  (fall text text.size fun h => absurd h (Nat.lt_irrefl _)).trans ((Leads.one (Q := fun m => m.outcome = none ∧ m.answer = some false ∧ m.frames = []) fun m hm => by
    obtain ⟨o, seen, rfl⟩ := hm
    refine ⟨rfl, ?_⟩
    unfold M.step
    simp only [att, Option.isSome_none, Bool.false_eq_true, if_false]
    unfold M.resume
    simp only [Bool.false_eq_true, if_false]
    rw [if_neg (Nat.lt_irrefl _)]
    exact ⟨rfl, rfl, rfl⟩).trans (Leads.one fun m ⟨h1, h2, h3⟩ => by
    refine ⟨h1, ?_⟩
    unfold M.step
    rw [h1, h2, h3]
    rfl))
theorem skips (text : Array Nat) : ∀ (k s : Nat), s + k ≤ text.size → (∀ j, j < k → text.getD (s + j) 0 ≠ 37) → Leads (2 * k) (A text s) (A text (s + k))
  | 0, s, _, _ => Leads.refl _
  | k + 1, s, hl, h => by
    have h1 := skip text s (by omega) (by have := h 0 (by omega); rwa [Nat.add_zero] at this)
    have h2 := skips text k (s + 1) (by omega) fun j hj => by rw [show s + 1 + j = s + (j + 1) by omega]; exact h (j + 1) (by omega)
    rw [show s + 1 + k = s + (k + 1) by omega] at h2
    rw [show 2 * (k + 1) = 2 + 2 * k by omega]
    exact h1.trans h2

/-- where a search begins -/
def begin (text : Array Nat) : M := forSearch code text 3 0 text.size false
theorem begin_at {text : Array Nat} (h : 2 ≤ text.size) : A text 0 (begin text) := by
  refine ⟨true, ({} : Seen).add 14, ?_⟩
  unfold begin forSearch
  show (if (decide (0 > text.size) || decide (text.size - 0 < 2)) = true then _ else _) = _
  rw [if_neg (by simp; omega)]
  rfl
theorem begin_short {text : Array Nat} (h : text.size < 2) : Leads 1 (fun m => m = begin text) Failed := Leads.one fun m hm => by
  have e : (begin text).answer = some false ∧ (begin text).outcome = none ∧ (begin text).frames = [] := by
    unfold begin forSearch
    show M.answer (if (decide (0 > text.size) || decide (text.size - 0 < 2)) = true then _ else _) = _ ∧ M.outcome (if (decide (0 > text.size) || decide (text.size - 0 < 2)) = true then _ else _) = none ∧ M.frames (if (decide (0 > text.size) || decide (text.size - 0 < 2)) = true then _ else _) = []
    rw [if_pos (by simp; omega)]
    exact ⟨rfl, rfl, rfl⟩
  subst hm
  refine ⟨e.2.1, ?_⟩
  unfold M.step Failed
  rw [e.2.1, e.2.2, e.1]
  rfl

theorem search_none {text : Array Nat} (h : ∀ j, j < text.size → text.getD j 0 ≠ 37) : Leads (2 * text.size + 3) (fun m => m = begin text) Failed := by
  by_cases h2 : 2 ≤ text.size
  · intro m hm
    subst hm
    have := (skips text text.size 0 (by omega) (by intro j hj; rw [Nat.zero_add]; exact h j hj)).trans (Q := A text (0 + text.size)) (R := Failed) (b := 3) (by rw [Nat.zero_add]; exact ends text)
    exact this _ (begin_at h2)
  · exact (begin_short (by omega)).mono (by omega)

/-- the places that a search gives: of the name, the form, the letter -/
def marksOf (nm : Option (Nat × Nat)) (f e : Nat) : Marks := #[nm.map (·.1), nm.map (·.2), some f, some e, some e, some (e + 1)]

section
variable {text : Array Nat} {fl wd pr sz : List Nat} {c : Nat}
theorem search_plain (p : Nat) (hpre : ∀ j, j < p → text.getD j 0 ≠ 37) (hf : fl ∈ Fl) (hw : wd ∈ Wd) (hp : pr ∈ Pr) (hs : sz ∈ Sz) (hc : c ∈ C7) (hh : Has text p (37 :: (fl ++ (wd ++ (pr ++ (sz ++ [c])))))) :
    Leads (2 * p + 97) (fun m => m = begin text) (Done p (p + 1 + (fl ++ (wd ++ (pr ++ sz))).length + 1) (marksOf none (p + 1) (p + 1 + (fl ++ (wd ++ (pr ++ sz))).length)) 5 3) := by
  obtain ⟨x, r, e, hx⟩ := head3 hf hw hp hs hc
  have hd := at_head hh.tail e
  have h2 : 2 ≤ text.size := by have := hh.tail.1; rw [e] at this; simp at this; omega
  have hlt := hh.head.1
  refine Leads.mono (a := 2 * p + (1 + (4 + 88))) ?_ (by omega)
  intro m hm
  subst hm
  refine ((skips text p 0 (by omega) (by intro j hj; rw [Nat.zero_add]; exact hpre j hj)).trans (b := 1 + (4 + 88)) ?_) _ (begin_at h2)
  rw [Nat.zero_add]
  intro m hm
  obtain ⟨o, hs'⟩ := att_sh hm
  refine ((lit_yes 9 37 (by decide) rfl rfl hlt hh.head.2).trans (b := 4 + 88) ?_) m hs'
  intro m hm
  refine ((part_noname (n := 1) (by omega) (by decide) (fun _ => by rw [hd.2]; exact no_open _ hx)).trans (b := 88) ?_) m ⟨_, _, ?_, Nat.le_refl _, hm.bound (by omega)⟩
  · exact part_rest (by omega) (by decide) hf hw hp hs hc hh.tail _ rfl
  · intro f hf
    rw [List.mem_singleton.mp hf]; rfl
theorem search_named (p : Nat) (hpre : ∀ j, j < p → text.getD j 0 ≠ 37) (cs : List Nat) (hcs : ∀ x ∈ cs, x ∈ [110, 111, 102, 120, 95, 49, 109]) (hlen : cs.length ≤ 100) (hf : fl ∈ Fl) (hw : wd ∈ Wd) (hp : pr ∈ Pr) (hs : sz ∈ Sz) (hc : c ∈ C7)
    (hh : Has text p (37 :: ((40 :: (cs ++ [41])) ++ (fl ++ (wd ++ (pr ++ (sz ++ [c]))))))) (q : Nat) (hq : q = p + 2 + cs.length + 1) :
    Leads (2 * p + 97) (fun m => m = begin text) (Done p (q + (fl ++ (wd ++ (pr ++ sz))).length + 1) (marksOf (some (p + 2, p + 2 + cs.length)) q (q + (fl ++ (wd ++ (pr ++ sz))).length)) 5 3) := by
  have hn := Has.left hh.tail
  have hr := Has.right hh.tail
  rw [show p + 1 + (40 :: (cs ++ [41])).length = q by simp; omega] at hr
  have h2 : 2 ≤ text.size := by have := hn.1; simp at this; omega
  have hlt := hh.head.1
  refine Leads.mono (a := 2 * p + (1 + (8 + 88))) ?_ (by omega)
  intro m hm
  subst hm
  refine ((skips text p 0 (by omega) (by intro j hj; rw [Nat.zero_add]; exact hpre j hj)).trans (b := 1 + (8 + 88)) ?_) _ (begin_at h2)
  rw [Nat.zero_add]
  intro m hm
  obtain ⟨o, hs'⟩ := att_sh hm
  refine ((lit_yes 9 37 (by decide) rfl rfl hlt hh.head.2).trans (b := 8 + 88) ?_) m hs'
  intro m hm
  refine ((part_name (n := 1) (by omega) (by decide) cs (fun x hx => acc_word x (hcs x hx)) acc_word_end hlen hn).trans (b := 88) ?_) m ⟨_, _, ?_, Nat.le_refl _, hm.bound (by omega)⟩
  · rw [show p + 1 + 1 + cs.length + 1 = q by omega]
    have h := part_rest (s := p) (n := 1 + 4) (lm := max (max (-1) ((0 : Nat) : Int)) ((1 : Nat) : Int)) (li := 1) (marks := markOf (markOf none6 (-1) 0 (p + 1 + 1)) (max (-1) ((0 : Nat) : Int)) 1 (p + 1 + 1 + cs.length)) (by omega) (by rw [markOf_size, markOf_size]; decide) hf hw hp hs hc hr _ rfl
    exact h
  · intro f hf
    rw [List.mem_singleton.mp hf]; rfl
end
end Mine.Rx
end
section
open PySem PySem.W PyProof.Rows
set_option maxRecDepth 100000
set_option maxHeartbeats 8000000
namespace Mine
open PySem.Calls PyProof.V PySem.Spec PySem.Builtin.Re

theorem drive {Md : Model} {A : Around} {Q : Sre.M → Shared → Prop} {E : Value → Shared → Prop} {s : Shared} : ∀ (turns n : Nat) (m m' : Sre.M), Sre.M.runFor n m = m' → m'.outcome.isSome = true → n < 4 * turns → Q m' s → wpAny Md A (reDrive turns m) Q E s
  | 0, n, m, m', _, _, h, _ => absurd h (by omega)
  | t + 1, n, m, m', hr, ho, hn, hq => by
    unfold reDrive
    show wpAny Md A (if (Sre.M.runFor 4 m).outcome.isSome = true then pure (Sre.M.runFor 4 m) else (do rule "sre.turn"; reDrive t (Sre.M.runFor 4 m))) Q E s
    by_cases hd : (Sre.M.runFor 4 m).outcome.isSome = true
    · rw [if_pos hd]
      have e : Sre.M.runFor 4 m = m' := by
        by_cases h4 : n ≤ 4
        · rw [show 4 = n + (4 - n) by omega, Rx.runFor_add, hr, Rx.runFor_some _ ho]
        · rw [← hr, show n = 4 + (n - 4) by omega, Rx.runFor_add, Rx.runFor_some _ hd]
      rw [e]
      exact wpAny_pure hq
    · rw [if_neg hd]
      have h4 : 4 < n := by
        rcases Nat.lt_or_ge 4 n with h | h
        · exact h
        · exfalso
          refine hd ?_
          rw [show 4 = n + (4 - n) by omega, Rx.runFor_add, hr, Rx.runFor_some _ ho]
          exact ho
      refine wpAny_bind (wpAny_rule (drive t (n - 4) _ m' ?_ ho (by omega) hq))
      rw [← Rx.runFor_add, show 4 + (n - 4) = n by omega, hr]

theorem said {Md : Model} {A : Around} {E : Value → Shared → Prop} {s : Shared} {Q : PUnit → Shared → Prop} (f : Nat → Bool) (g : Nat → String) (h : Q ⟨⟩ s) : ∀ l : List Nat,
    wpAny Md A (forIn l PUnit.unit fun i _ => if f i = true then (do rule (g i); pure (ForInStep.yield PUnit.unit)) else pure (ForInStep.yield PUnit.unit)) Q E s
  | [] => wpAny_pure h
  | i :: r => by
    rw [List.forIn_cons]
    refine wpAny_bind ?_
    by_cases hf : f i = true
    · rw [if_pos hf]
      exact wpAny_bind (wpAny_rule (wpAny_pure (said f g h r)))
    · rw [if_neg hf]
      exact wpAny_pure (said f g h r)

theorem runToEnd {Md : Model} {A : Around} {Q : Option Sre.M → Shared → Prop} {E : Value → Shared → Prop} {s : Shared} {m m' : Sre.M} {n : Nat} (hr : Sre.M.runFor n m = m') (hn : n < 2 ^ 64)
    (ho : (m'.outcome = some .matched ∧ Q (some m') s) ∨ (m'.outcome = some .failed ∧ Q none s)) : wpAny Md A (reRunToEnd m) Q E s := by
  unfold reRunToEnd
  have hs : m'.outcome.isSome = true := by rcases ho with h | h <;> rw [h.1] <;> rfl
  refine wpAny_bind (drive (2 ^ 64) n m m' hr hs (by omega) ?_)
  refine wpAny_bind ?_
  refine said _ _ ?_ _
  rcases ho with h | h
  · rw [h.1]; exact wpAny_pure h.2
  · rw [h.1]; exact wpAny_pure h.2

theorem named_search (v : Value) : reNamed "re.Pattern.search" "search" ["string", "pos", "endpos"] 1 [v] [] = pure [some v, none, none] := rfl
theorem named_groups : reNamed "re.Match.groups" "groups" ["default"] 0 [] [] = pure [none] := rfl

def patObj (p : Value) : Obj := { cls := .type "re.Pattern", data := .fields #[p, .int 32 429, .int 3 0, .none, .none, .ref 35, .int 0 0] }
def codeTup : Obj := { cls := .type "tuple", data := .seq (Rx.code.toList.map fun (n : Nat) => Value.int (n : Int) 0).toArray }
def spanOf : Option (Nat × Nat) → List Value
  | some (b, c) => [rawInt b, rawInt c]
  | none => [rawInt (-1), rawInt (-1)]
def spans (nm : Option (Nat × Nat)) (f e : Nat) : List Value := spanOf nm ++ [rawInt f, rawInt e, rawInt e, rawInt (e + 1 : Nat)]
def spanTup (s : Nat) (nm : Option (Nat × Nat)) (f e : Nat) : Obj := { cls := .type "tuple", data := .seq (rawInt s :: rawInt (e + 1 : Nat) :: spans nm f e).toArray }
def matchObj (x : Str) (t : Tok) (T : Addr) : Obj := { cls := .type "re.Match", data := .fields #[.str x t, .ref 36, rawInt 0, rawInt x.cps.size, rawInt 3, .ref T] }

section
variable {prog : Program} {w : World} {A : Around} {E : Value → Shared → Prop} {s : Shared}
theorem target {p : Value} {x : Str} {t : Tok} {Q : ReTarget → Shared → Prop} (hp : s.heap.get? 36 = some (patObj p)) (hc : s.heap.get? 35 = some codeTup) (hx : x.cps.size < 2 ^ 62)
    (h : Q { pattern := .ref 36, string := .str x t, code := Rx.code, text := x.cps, kind := 0, groups := 3, pos := 0, lim := x.cps.size } s) :
    wpAny (model prog w) A (reTarget "re.Pattern.search" "search" ⟨[.ref 36, .str x t], []⟩) Q E s := by
  unfold reTarget
  show wpAny _ _ (reNamed "re.Pattern.search" "search" ["string", "pos", "endpos"] 1 [.str x t] [] >>= _) _ _ _
  rw [named_search]
  refine wpAny_bind (wpAny_pure ?_)
  refine wpAny_bind (wpAny_pure ?_)
  refine wpAny_bind (wpAny_pure ?_)
  unfold fieldsOf
  refine wpAny_bind (wpAny_bind (wpAny_load hp (wpAny_pure ?_)))
  rw [show reTextOf (.str x t) = pure (x.cps, 0) from rfl]
  refine wpAny_bind (wpAny_pure ?_)
  show wpAny _ _ (reNoCollectionInside (.str x t) 0 >>= _) _ _ _
  rw [show reNoCollectionInside (.str x t) 0 = pure () from rfl]
  refine wpAny_bind (wpAny_pure ?_)
  show wpAny _ _ (reRawItems (.ref 35) >>= _) _ _ _
  unfold reRawItems seqItems?
  refine wpAny_bind (wpAny_bind (wpAny_bind (wpAny_load hc (wpAny_pure (wpAny_pure ?_)))))
  refine wpAny_pure ?_
  have e1 : min (0 : Int).toNat x.cps.size = 0 := by simp
  have e0 : (9223372036854775807 : Int).toNat = 9223372036854775807 := rfl
  have e2 : min (9223372036854775807 : Int).toNat x.cps.size = x.cps.size := by rw [e0]; omega
  have e3 : ((((Rx.code.toList.map fun (n : Nat) => Value.int (n : Int) 0).toArray.map reRawOf).map fun (i : Int) => i.toNat) = Rx.code) := by
    rw [List.map_toArray, List.map_toArray, List.map_map, List.map_map]
    exact congrArg List.toArray (List.map_id _)
  have h' : Q { pattern := .ref 36, string := .str x t, code := ((Rx.code.toList.map fun (n : Nat) => Value.int (n : Int) 0).toArray.map reRawOf).map fun (i : Int) => i.toNat, text := x.cps, kind := 0, groups := 3, pos := min (0 : Int).toNat x.cps.size, lim := min (9223372036854775807 : Int).toNat x.cps.size } s := by
    rw [e1, e2, e3]; exact h
  exact h'

theorem search_none {p : Value} {x : Str} {t : Tok} {Q : Value → Shared → Prop} (hp : s.heap.get? 36 = some (patObj p)) (hc : s.heap.get? 35 = some codeTup) (hx : x.cps.size < 2 ^ 60)
    (hn : ∀ j, j < x.cps.size → x.cps.getD j 0 ≠ 37) (h : Q .none s) : wpAny (model prog w) A (call (.builtin "re.Pattern.search") [.ref 36, .str x t]) Q E s := by
  refine call_meetsIn slot_search ⟨_, hp, rfl⟩ entry_search (args_search _ _) (S := fun _ R s => (s.heap.get? 36 = some (patObj p) ∧ s.heap.get? 35 = some codeTup) ∧ R (.ok (.ret .none)) s) (MeetsIn.of_wp ?_) ⟨⟨hp, hc⟩, h⟩
  rintro A R s ⟨⟨hp, hc⟩, h⟩
  unfold Builtin.«re.Pattern.search»
  refine wpAny_bind (target hp hc (by omega) ?_)
  unfold reAnswer
  obtain ⟨n, hn', hf⟩ := Rx.search_none hn _ rfl
  refine wpAny_bind (runToEnd (m' := Sre.M.runFor n (Rx.begin x.cps)) rfl (by omega) (.inr ⟨hf, ?_⟩))
  exact wpAny_pure ⟨_, rfl, h⟩

theorem span_any {nm : Option (Nat × Nat)} {f e : Nat} (hfe : f ≤ e) (hnm : ∀ q, nm = some q → q.1 ≤ q.2) :
    ((List.range 3).any fun g => match Array.getD (Rx.marksOf nm f e) (2 * g) none, Array.getD (Rx.marksOf nm f e) (2 * g + 1) none with | some b, some e => decide (((2 * g + 1 : Nat) : Int) ≤ 5) && decide (e < b) | _, _ => false) = false := by
  have h1 : decide (e < f) = false := decide_eq_false (by omega)
  have h2 : decide (e + 1 < e) = false := decide_eq_false (by omega)
  cases nm with
  | none =>
    show (false || ((decide (((3 : Nat) : Int) ≤ 5) && decide (e < f)) || ((decide (((5 : Nat) : Int) ≤ 5) && decide (e + 1 < e)) || false))) = false
    rw [h1, h2]; simp
  | some q =>
    have h3 : decide (q.2 < q.1) = false := decide_eq_false (by have := hnm q rfl; omega)
    show ((decide (((1 : Nat) : Int) ≤ 5) && decide (q.2 < q.1)) || ((decide (((3 : Nat) : Int) ≤ 5) && decide (e < f)) || ((decide (((5 : Nat) : Int) ≤ 5) && decide (e + 1 < e)) || false))) = false
    rw [h1, h2, h3]; simp
theorem span_list (nm : Option (Nat × Nat)) (f e : Nat) :
    (List.flatMap (fun g => match if ((2 * g + 1 : Nat) : Int) ≤ 5 then (Array.getD (Rx.marksOf nm f e) (2 * g) none, Array.getD (Rx.marksOf nm f e) (2 * g + 1) none) else (none, none) with | (some b, some e) => [rawInt b, rawInt e] | _ => [rawInt (-1), rawInt (-1)]) (List.range 3)) = spans nm f e := by
  cases nm <;> rfl

theorem search_some {p : Value} {x : Str} {t : Tok} {Q : Value → Shared → Prop} {k b f e : Nat} {nm : Option (Nat × Nat)} (hp : s.heap.get? 36 = some (patObj p)) (hc : s.heap.get? 35 = some codeTup) (hx : x.cps.size < 2 ^ 60)
    (hr : Rx.Leads k (fun m => m = Rx.begin x.cps) (Rx.Done b (e + 1) (Rx.marksOf nm f e) 5 3)) (hk : k < 2 ^ 62) (hfe : f ≤ e) (hnm : ∀ q, nm = some q → q.1 ≤ q.2)
    (h : Q (.ref (s.heap.objs.size + 1)) { s with heap := (s.heap.push (spanTup b nm f e)).push (matchObj x t s.heap.objs.size) }) : wpAny (model prog w) A (call (.builtin "re.Pattern.search") [.ref 36, .str x t]) Q E s := by
  refine call_meetsIn slot_search ⟨_, hp, rfl⟩ entry_search (args_search _ _) (S := fun _ R s => (s.heap.get? 36 = some (patObj p) ∧ s.heap.get? 35 = some codeTup) ∧ R (.ok (.ret (.ref (s.heap.objs.size + 1)))) { s with heap := (s.heap.push (spanTup b nm f e)).push (matchObj x t s.heap.objs.size) }) (MeetsIn.of_wp ?_) ⟨⟨hp, hc⟩, h⟩
  rintro A R s ⟨⟨hp, hc⟩, h⟩
  unfold Builtin.«re.Pattern.search»
  refine wpAny_bind (target hp hc (by omega) ?_)
  unfold reAnswer
  obtain ⟨n, hn', h1, h2, h3, h4, h5, h6⟩ := hr _ rfl
  refine wpAny_bind (runToEnd (m' := Sre.M.runFor n (Rx.begin x.cps)) rfl (by omega) (.inl ⟨h1, ?_⟩))
  generalize Sre.M.runFor n (Rx.begin x.cps) = m at h1 h2 h3 h4 h5 h6
  dsimp only
  refine wpAny_bind ?_
  unfold reNewMatch
  rw [h2, h3, h4, h5, h6]
  refine wpAny_ite ?_
  split
  · rename_i hq
    exact absurd (hq.symm.trans (span_any hfe hnm)) (by decide)
  have hl := span_list nm f e
  refine wpAny_bind (wpAny_newObj_type ?_ ?_)
  · refine wpAny_newObj_type ?_ ?_
    · refine wpAny_pure ⟨_, rfl, ?_⟩
      have h' := h
      unfold spanTup at h'
      rw [← hl] at h'
      rw [show (Value.ref (s.heap.objs.size + 1)) = _ from congrArg Value.ref (Heap.size_push s.heap _).symm] at h'
      exact h'
    · show (5 : Nat) + 1 ≤ _; decide
  · show (List.toArray (_ :: _ :: _)).size ≤ _
    have hz : (spans nm f e).length = 6 := by cases nm <;> rfl
    rw [← hl] at hz
    have hz' := Nat.le_of_eq hz
    simp only [List.size_toArray, List.length_cons]
    exact Nat.le_trans (Nat.succ_le_succ (Nat.succ_le_succ hz')) (by decide)
def nmI : Option (Nat × Nat) → List Int
  | some (b, c) => [(b : Int), (c : Int)]
  | none => [-1, -1]
def spanArr (b : Nat) (nm : Option (Nat × Nat)) (f e : Nat) : Array Int := ((b : Int) :: ((e + 1 : Nat) : Int) :: (nmI nm ++ [(f : Int), (e : Int), (e : Int), ((e + 1 : Nat) : Int)])).toArray
theorem rawItems_span {T : Addr} {b f e : Nat} {nm : Option (Nat × Nat)} {Q : Array Int → Shared → Prop} (hT : s.heap.get? T = some (spanTup b nm f e))
    (h : Q (spanArr b nm f e) s) : wpAny (model prog w) A (reRawItems (.ref T)) Q E s := by
  have e1 : ((rawInt b :: rawInt (e + 1 : Nat) :: spans nm f e).toArray.map reRawOf) = spanArr b nm f e := by
    rw [List.map_toArray]
    cases nm <;> rfl
  unfold reRawItems seqItems?
  refine wpAny_bind (wpAny_bind (wpAny_load hT (wpAny_pure (wpAny_pure ?_))))
  have h' := h
  rw [← e1] at h'
  exact h'
theorem found_of {a T : Addr} {x : Str} {t : Tok} {b f e : Nat} {nm : Option (Nat × Nat)} {Q : ReFound → Shared → Prop} (ha : s.heap.get? a = some (matchObj x t T)) (hT : s.heap.get? T = some (spanTup b nm f e))
    (h : Q { fields := #[.str x t, .ref 36, rawInt 0, rawInt x.cps.size, rawInt 3, .ref T], spans := spanArr b nm f e } s) :
    wpAny (model prog w) A (reFound (.ref a)) Q E s := by
  unfold reFound fieldsOf
  refine wpAny_bind (wpAny_bind (wpAny_load ha (wpAny_pure ?_)))
  exact wpAny_bind (rawItems_span hT (wpAny_pure h))

theorem end_call {a T : Addr} {x : Str} {t : Tok} {b f e : Nat} {nm : Option (Nat × Nat)} {Q : Value → Shared → Prop} (ha : s.heap.get? a = some (matchObj x t T)) (hT : s.heap.get? T = some (spanTup b nm f e))
    (h : Q (.int ((e + 1 : Nat) : Int) s.toks) { s with toks := s.toks + 1 }) : wpAny (model prog w) A (call (.builtin "re.Match.end") [.ref a]) Q E s := by
  refine call_meetsIn slot_end ⟨_, ha, rfl⟩ entry_end (args_end _) (S := fun _ R s => (s.heap.get? a = some (matchObj x t T) ∧ s.heap.get? T = some (spanTup b nm f e)) ∧ R (.ok (.ret (.int ((e + 1 : Nat) : Int) s.toks))) { s with toks := s.toks + 1 }) (MeetsIn.of_wp ?_) ⟨⟨ha, hT⟩, h⟩
  rintro A R s ⟨⟨ha, hT⟩, h⟩
  unfold Builtin.«re.Match.end» reOneGroup
  refine wpAny_bind (wpAny_bind ?_)
  rw [show selfAndSome "Match.end" "end" 0 1 ⟨[.ref a], []⟩ = pure (.ref a, []) from rfl]
  refine wpAny_pure (wpAny_bind (found_of ha hT (wpAny_bind (wpAny_pure (wpAny_pure ?_)))))
  show wpAny _ _ (retInt (Array.getD _ 1 (-1))) _ _ _
  rw [show (spanArr b nm f e).getD 1 (-1) = ((e + 1 : Nat) : Int) from by cases nm <;> rfl]
  exact wpAny_bind (wpAny_mkInt (wpAny_pure ⟨_, rfl, h⟩))

def cut (x : Str) (b e : Nat) : Str := ⟨x.cps.extract b e⟩
def cutV (x : Str) (nm : Option (Nat × Nat)) (t : Tok) : Value := match nm with | none => .none | some q => .str (cut x q.1 q.2) t
theorem slice_wp {x : Str} {b e : Nat} {Q : Value → Shared → Prop} (hx : x.cps.size ≤ 1000000) (h : Q (.str (cut x b e) s.toks) { s with toks := s.toks + 1 }) : wpAny (model prog w) A (reSlice x.cps 0 b e) Q E s := by
  unfold reSlice
  show wpAny _ _ (mkStr ⟨x.cps.extract b e⟩) _ _ _
  refine wpAny_mkStr h ?_
  show (x.cps.extract b e).size ≤ sizeLine
  rw [Array.size_extract]
  have : sizeLine = 16777216 := rfl
  omega
theorem groups_call {a T : Addr} {x : Str} {t : Tok} {b f e : Nat} {nm : Option (Nat × Nat)} {Q : Value → Shared → Prop} (ha : s.heap.get? a = some (matchObj x t T)) (hT : s.heap.get? T = some (spanTup b nm f e)) (hx : x.cps.size ≤ 1000000)
    (h : ∀ t1 t2 t3 tk, Q (.ref s.heap.objs.size) { s with heap := s.heap.push { cls := .type "tuple", data := .seq #[cutV x nm t1, .str (cut x f e) t2, .str (cut x e (e + 1)) t3] }, toks := tk }) :
    wpAny (model prog w) A (call (.builtin "re.Match.groups") [.ref a]) Q E s := by
  refine call_meetsIn slot_groups ⟨_, ha, rfl⟩ entry_groups (args_groups _) (S := fun _ R s => (s.heap.get? a = some (matchObj x t T) ∧ s.heap.get? T = some (spanTup b nm f e)) ∧
    ∀ t1 t2 t3 tk, R (.ok (.ret (.ref s.heap.objs.size))) { s with heap := s.heap.push { cls := .type "tuple", data := .seq #[cutV x nm t1, .str (cut x f e) t2, .str (cut x e (e + 1)) t3] }, toks := tk }) (MeetsIn.of_wp ?_) ⟨⟨ha, hT⟩, h⟩
  rintro A R s ⟨⟨ha, hT⟩, h⟩
  unfold Builtin.«re.Match.groups» reWithDefault
  refine wpAny_bind (wpAny_bind ?_)
  rw [named_groups]
  refine wpAny_pure (wpAny_bind (found_of ha hT (wpAny_pure ?_)))
  have hf : ∀ (q : Nat × Nat) (g : Nat) (Q : Value → Shared → Prop) (s : Shared) (sp : Array Int), sp.getD (2 * g) (-1) = (q.1 : Int) → sp.getD (2 * g + 1) (-1) = (q.2 : Int) → Q (.str (cut x q.1 q.2) s.toks) { s with toks := s.toks + 1 } →
      wpAny (model prog w) A.in1 (reGroupText { fields := #[.str x t, .ref 36, rawInt 0, rawInt x.cps.size, rawInt 3, .ref T], spans := sp } g .none) Q (fun e s' => R (.error e) s') s := by
    intro q g Q s sp h1 h2 hq
    unfold reGroupText
    rw [h1, h2]
    show wpAny _ _ (if (decide ((q.1 : Int) < 0) || decide ((q.2 : Int) < 0)) = true then _ else _) _ _ _
    rw [if_neg (by simp)]
    show wpAny _ _ (reTextOf (.str x t) >>= _) _ _ _
    rw [show reTextOf (.str x t) = pure (x.cps, 0) from rfl]
    refine wpAny_bind (wpAny_pure (slice_wp hx ?_))
    exact hq
  have hz : (spanArr b nm f e).size = 8 := by cases nm <;> rfl
  dsimp only
  rw [hz]
  show wpAny _ _ (List.mapM (fun g => reGroupText _ (g + 1) .none) [0, 1, 2] >>= _) _ _ _
  rw [List.mapM_cons, List.mapM_cons, List.mapM_cons, List.mapM_nil]
  have hl := hf (f, e) 2
  have hc := hf (e, e + 1) 3
  have tail : ∀ (v : Value) (s' : Shared), s'.heap = s.heap → s'.gens = s.gens → s'.drawn = s.drawn → s'.os = s.os → (∃ t1, v = cutV x nm t1) →
      wpAny (model prog w) A.in1 (do let b₁ ← reGroupText { fields := #[.str x t, .ref 36, rawInt 0, rawInt x.cps.size, rawInt 3, .ref T], spans := spanArr b nm f e } (1 + 1) .none; let b₂ ← (do let b₂ ← reGroupText { fields := #[.str x t, .ref 36, rawInt 0, rawInt x.cps.size, rawInt 3, .ref T], spans := spanArr b nm f e } (2 + 1) .none; let bs ← pure []; pure (b₂ :: bs)); pure (b₁ :: b₂))
        (fun vs s'' => wpAny (model prog w) A.in1 (newTuple (v :: vs) >>= ret) (fun fin s' => ∃ v, fin = .done (.ret v) ∧ R (.ok (.ret v)) s') (fun e s' => R (.error e) s') s'') (fun e s' => R (.error e) s') s' := by
    rintro v s' e1 e2 e3 e4 ⟨t1, rfl⟩
    refine wpAny_bind (hl _ s' _ (by cases nm <;> rfl) (by cases nm <;> rfl) ?_)
    refine wpAny_bind (wpAny_bind (hc _ _ _ (by cases nm <;> rfl) (by cases nm <;> rfl) ?_))
    refine wpAny_bind (wpAny_pure (wpAny_pure (wpAny_pure ?_)))
    refine wpAny_bind (wpAny_newObj_type (wpAny_pure ⟨_, rfl, ?_⟩) (by show (3 : Nat) ≤ _; decide))
    obtain ⟨hp', g', d', tk', os'⟩ := s'
    dsimp only at e1 e2 e3 e4
    subst e1 e2 e3 e4
    exact h t1 _ _ _
  refine wpAny_bind (wpAny_bind ?_)
  cases nm with
  | none =>
    unfold reGroupText
    show wpAny _ _ (pure Value.none) _ _ _
    exact wpAny_pure (wpAny_bind (wpAny_mono (tail .none s rfl rfl rfl rfl ⟨0, rfl⟩) (fun vs s'' h => wpAny_pure h) fun _ _ x => x))
  | some q =>
    refine hf q 1 _ s _ rfl rfl ?_
    exact wpAny_bind (wpAny_mono (tail (.str (cut x q.1 q.2) s.toks) _ rfl rfl rfl rfl ⟨_, rfl⟩) (fun vs s'' h => wpAny_pure h) fun _ _ x => x)
end
end Mine
end
section
open PySem PySem.W PyProof.Rows
set_option maxRecDepth 100000
set_option maxHeartbeats 8000000
namespace Mine
open PySem.Calls PyProof.V PySem.Spec PySem.Builtin.Re

/-- what a search of a text gives -/
inductive Found (x : Str) : Option (Nat × Nat × Nat × Option (Nat × Nat)) → Prop
  | none : x.cps.size ≤ 1000000 → (∀ j, j < x.cps.size → x.cps.getD j 0 ≠ 37) → Found x none
  | some {k b f e : Nat} {nm : Option (Nat × Nat)} : x.cps.size ≤ 1000000 → Rx.Leads k (fun m => m = Rx.begin x.cps) (Rx.Done b (e + 1) (Rx.marksOf nm f e) 5 3) → k < 2 ^ 62 → f ≤ e → (∀ q, nm = some q → q.1 ≤ q.2) → e + 1 ≤ x.cps.size → Found x (some (b, f, e, nm))

section
variable {prog : Program} {w : World} {A : Around} {E : Value → Shared → Prop} {s : Shared} {h₀ : Heap} {L : Addr} {m : Str → Option Value} {news : List (Addr × Obj)}
theorem pat_of {h : Heap} (X : (Mine.hd.heap_39 w.params).In h) : ∃ p, h.get? 36 = some (patObj p) ∧ h.get? 35 = some codeTup :=
  ⟨_, X _ _ (by rfl), X _ _ (by rfl)⟩
theorem getMethod_search {pl : Sem Bool} {Q : Value × List Value → Shared → Prop} (F : Fr h₀ L s.heap m) (X : (Mine.hd.heap_39 w.params).In h₀) (h : Q (.builtin "re.Pattern.search", [.ref 36]) s) :
    wpAny (model prog w) A (getMethod (.ref 36) "search" pl) Q E s := by
  obtain ⟨p, h1, h2⟩ := pat_of (X.keeps F.keep)
  exact getMethod_builtin ⟨_, h1, rfl⟩ plainAttrs_pattern slot_search type_search (fun a e => by cases e; exact ⟨_, h1, rfl⟩) h
theorem getMethod_groups {pl : Sem Bool} {Q : Value × List Value → Shared → Prop} {a T : Addr} {x : Str} {t : Tok} (N : News h₀ L s.heap news) (hm : (a, matchObj x t T) ∈ news) (h : Q (.builtin "re.Match.groups", [.ref a]) s) :
    wpAny (model prog w) A (getMethod (.ref a) "groups" pl) Q E s :=
  getMethod_builtin ⟨_, (N _ hm).1, rfl⟩ plainAttrs_match slot_groups type_groups (fun a e => by cases e; exact ⟨_, (N _ hm).1, rfl⟩) h
theorem getMethod_end {pl : Sem Bool} {Q : Value × List Value → Shared → Prop} {a T : Addr} {x : Str} {t : Tok} (N : News h₀ L s.heap news) (hm : (a, matchObj x t T) ∈ news) (h : Q (.builtin "re.Match.end", [.ref a]) s) :
    wpAny (model prog w) A (getMethod (.ref a) "end" pl) Q E s :=
  getMethod_builtin ⟨_, (N _ hm).1, rfl⟩ plainAttrs_match slot_end type_end (fun a e => by cases e; exact ⟨_, (N _ hm).1, rfl⟩) h
theorem search_none_K {x : Str} {t : Tok} {Q : Value → Shared → Prop} (F : Fr h₀ L s.heap m) (X : (Mine.hd.heap_39 w.params).In h₀) (H : Found x none) (h : Q .none s) :
    wpAny (model prog w) A (call (.builtin "re.Pattern.search") [.ref 36, .str x t]) Q E s := by
  obtain ⟨p, h1, h2⟩ := pat_of (X.keeps F.keep)
  cases H with
  | none hx hn => exact search_none h1 h2 (by omega) hn h
theorem search_some_K {x : Str} {t : Tok} {b f e : Nat} {nm : Option (Nat × Nat)} {Q : Value → Shared → Prop} (F : Fr h₀ L s.heap m) (N : News h₀ L s.heap news) (X : (Mine.hd.heap_39 w.params).In h₀) (H : Found x (some (b, f, e, nm)))
    (h : ∀ h' a T, Fr h₀ L h' m → News h₀ L h' ((a, matchObj x t T) :: (T, spanTup b nm f e) :: news) → (∀ p ∈ news, p.1 < T) → T < a → Q (.ref a) { s with heap := h' }) :
    wpAny (model prog w) A (call (.builtin "re.Pattern.search") [.ref 36, .str x t]) Q E s := by
  obtain ⟨p, h1, h2⟩ := pat_of (X.keeps F.keep)
  cases H with
  | some hx hr hk hfe hnm hl =>
    refine search_some h1 h2 (by omega) hr hk hfe hnm (h _ _ s.heap.objs.size ((F.push _).push _) ?_ (fun p hp => Heap.lt_size (N p hp).1) (Nat.lt_succ_self _))
    have := News.push (F.push (spanTup b nm f e)) (News.push F N (spanTup b nm f e)) (matchObj x t s.heap.objs.size)
    rw [Heap.size_push] at this
    exact this
theorem groups_K {x : Str} {t : Tok} {b f e : Nat} {nm : Option (Nat × Nat)} {a T : Addr} {Q : Value → Shared → Prop} (F : Fr h₀ L s.heap m) (N : News h₀ L s.heap news) (ha : (a, matchObj x t T) ∈ news) (hT : (T, spanTup b nm f e) ∈ news) (hx : x.cps.size ≤ 1000000)
    (h : ∀ h' g t1 t2 t3 tk, Fr h₀ L h' m → News h₀ L h' ((g, { cls := .type "tuple", data := .seq #[cutV x nm t1, .str (cut x f e) t2, .str (cut x e (e + 1)) t3] }) :: news) → (∀ p ∈ news, p.1 < g) → Q (.ref g) { s with heap := h', toks := tk }) :
    wpAny (model prog w) A (call (.builtin "re.Match.groups") [.ref a]) Q E s :=
  groups_call (N _ ha).1 (N _ hT).1 hx fun t1 t2 t3 tk => h _ _ t1 t2 t3 tk (F.push _) (News.push F N _) fun p hp => Heap.lt_size (N p hp).1
theorem end_K {x : Str} {t : Tok} {b f e : Nat} {nm : Option (Nat × Nat)} {a T : Addr} {Q : Value → Shared → Prop} (N : News h₀ L s.heap news) (ha : (a, matchObj x t T) ∈ news) (hT : (T, spanTup b nm f e) ∈ news)
    (h : Q (.int ((e + 1 : Nat) : Int) s.toks) { s with toks := s.toks + 1 }) : wpAny (model prog w) A (call (.builtin "re.Match.end") [.ref a]) Q E s :=
  end_call (N _ ha).1 (N _ hT).1 h

/-- the end of a turn -/
def GoEnd (h₀ : Heap) (L : Addr) (s : Shared) (J : Nat → (Str → Option Value) → List (Addr × Obj) → Prop) (n : Nat) (f : Flow) (s₃ : Shared) : Prop :=
  (f = .next ∨ f = .cont) ∧ ∃ h' tk m₂ news₂ n', s₃ = { s with heap := h', toks := tk } ∧ Fr h₀ L h' m₂ ∧ News h₀ L h' news₂ ∧ n' < n ∧ J n' m₂ news₂
theorem GoEnd.intro {s : Shared} {J : Nat → (Str → Option Value) → List (Addr × Obj) → Prop} {n n' tk : Nat} {f : Flow} {h' : Heap} {m₂ : Str → Option Value} {news₂ : List (Addr × Obj)} (hf : f = .next ∨ f = .cont)
    (F : Fr h₀ L h' m₂) (N : News h₀ L h' news₂) (hn : n' < n) (hJ : J n' m₂ news₂) : GoEnd h₀ L s J n f { s with heap := h', toks := tk } := ⟨hf, h', tk, m₂, news₂, n', rfl, F, N, hn, hJ⟩
/-- a while whose turn may go on by continue -/
theorem While_go {env : Env} {Q : Flow → Shared → Prop} {test : Expr} {body : List Stmt} {pos : Pos} (J : Nat → (Str → Option Value) → List (Addr × Obj) → Prop) {n₀ : Nat}
    (F : Fr h₀ L s.heap m) (N : News h₀ L s.heap news) (hJ : J n₀ m news)
    (turn : ∀ n m₁ news₁ h₁ tk₁, Fr h₀ L h₁ m₁ → News h₀ L h₁ news₁ → J n m₁ news₁ →
      wpAny (model prog w) A (isTrue test env (eval test env)) (fun b s₂ =>
        if b = true then wpAny (model prog w) A (execs body env) (GoEnd h₀ L s J n) E s₂ else Q .next s₂) E { s with heap := h₁, toks := tk₁ })
    (hE : PassesOwn (model prog w) A env E := by passes_own) :
    wpAny (model prog w) A (exec (.While test body [] pos) env) Q E s := by
  refine wpAny_While (codeAny_whileLoop (fun n s' => ∃ h₁ tk₁ m₁ news₁, s' = { s with heap := h₁, toks := tk₁ } ∧ Fr h₀ L h₁ m₁ ∧ News h₀ L h₁ news₁ ∧ J n m₁ news₁) ?_ n₀ ⟨s.heap, s.toks, m, news, rfl, F, N, hJ⟩)
  rintro n s' ⟨h₁, tk₁, m₁, news₁, rfl, F₁, N₁, J₁⟩
  refine wpAny_mono (turn n m₁ news₁ h₁ tk₁ F₁ N₁ J₁) (fun b s₂ h₂ => ?_) hE
  cases b with
  | false =>
    rw [if_neg Bool.false_ne_true] at h₂
    exact wpAny_execs_nil h₂
  | true =>
    rw [if_pos rfl] at h₂
    refine wpAny_mono h₂ (fun f s₃ h₃ => ?_) hE
    obtain ⟨hf, h', tk, m₂, news₂, n', rfl, F₂, N₂, hn, J₂⟩ := h₃
    rcases hf with rfl | rfl
    · exact ⟨n', hn, h', tk, m₂, news₂, rfl, F₂, N₂, J₂⟩
    · exact ⟨n', hn, h', tk, m₂, news₂, rfl, F₂, N₂, J₂⟩
end
end Mine
end
section
open PySem PySem.W PyProof.Rows
set_option maxRecDepth 100000
set_option maxHeartbeats 8000000
namespace Mine
open PySem.Calls PyProof.V PySem.Spec PySem.Builtin.Re

abbrev Pair := Option Str × Str
def pairOf (x : Str) (nm : Option (Nat × Nat)) (e : Nat) : Pair := (nm.map fun q => cut x q.1 q.2, cut x e (e + 1))
def isPct (p : Pair) : Bool := p.2 == "%" && p.1.isNone
def addTo (p : Pair) (l : List Pair) : List Pair := if isPct p then l else p :: l
inductive Parses : Str → List Pair → Nat → Prop
  | stop {x : Str} : Found x none → Parses x [] 0
  | go {x : Str} {b f e n : Nat} {nm : Option (Nat × Nat)} {l : List Pair} : Found x (some (b, f, e, nm)) → Parses (Txt.slice x (some ((e + 1 : Nat) : Int)) none) l n → Parses x (addTo (pairOf x nm e) l) (n + 1)

def tup2 (p : Pair) (t1 t2 : Tok) : Obj := { cls := .type "tuple", data := .seq #[nameV p.1 t1, .str p.2 t2] }
inductive PairsAt (news : List (Addr × Obj)) : List Value → List Pair → Prop
  | nil : PairsAt news [] []
  | cons {a : Addr} {p : Pair} {t1 t2 : Tok} {vs : List Value} {ps : List Pair} : (a, tup2 p t1 t2) ∈ news → PairsAt news vs ps → PairsAt news (.ref a :: vs) (p :: ps)
theorem PairsAt.mono {news news' : List (Addr × Obj)} {vs : List Value} {ps : List Pair} (h : PairsAt news vs ps) (l : ∀ p ∈ news, p ∈ news') : PairsAt news' vs ps := by
  induction h with
  | nil => exact .nil
  | cons hm _ ih => exact .cons (l _ hm) ih
theorem PairsAt.snoc {news : List (Addr × Obj)} {vs : List Value} {ps : List Pair} (h : PairsAt news vs ps) {a : Addr} {p : Pair} {t1 t2 : Tok} (hm : (a, tup2 p t1 t2) ∈ news) : PairsAt news (vs ++ [.ref a]) (ps ++ [p]) := by
  induction h with
  | nil => exact .cons hm .nil
  | cons hm' _ ih => exact .cons hm' ih
theorem PairsAt.length {news : List (Addr × Obj)} {vs : List Value} {ps : List Pair} (h : PairsAt news vs ps) : vs.length = ps.length := by
  induction h with
  | nil => rfl
  | cons _ _ ih => simp [ih]

inductive MatchIs (objs : List (Addr × Obj)) (x : Str) (t : Tok) : Value → List Pair → Nat → Prop
  | stop : Found x none → MatchIs objs x t .none [] 0
  | go {a T : Addr} {b f e n : Nat} {nm : Option (Nat × Nat)} {l : List Pair} : (a, matchObj x t T) ∈ objs → (T, spanTup b nm f e) ∈ objs → Found x (some (b, f, e, nm)) → Parses (Txt.slice x (some ((e + 1 : Nat) : Int)) none) l n →
      MatchIs objs x t (.ref a) (addTo (pairOf x nm e) l) (n + 1)

theorem MatchIs.mono {objs objs' : List (Addr × Obj)} {x : Str} {t : Tok} {v : Value} {l : List Pair} {n : Nat} (h : MatchIs objs x t v l n) (k : ∀ p ∈ objs, p ∈ objs') : MatchIs objs' x t v l n := by
  cases h with
  | stop h => exact .stop h
  | go h1 h2 h3 h4 => exact .go (k _ h1) (k _ h2) h3 h4

section
variable {prog : Program} {w : World} {A : Around} {E : Value → Shared → Prop} {s : Shared} {h₀ : Heap} {L : Addr} {m : Str → Option Value} {news : List (Addr × Obj)}
theorem search_parses {x : Str} {t : Tok} {l : List Pair} {n : Nat} {Q : Value → Shared → Prop} (F : Fr h₀ L s.heap m) (N : News h₀ L s.heap news) (X : (Mine.hd.heap_39 w.params).In h₀) (H : Parses x l n)
    (h : ∀ h' v ex, Fr h₀ L h' m → News h₀ L h' (ex ++ news) → (∀ p ∈ ex, ∀ q ∈ news, q.1 < p.1) → MatchIs ex x t v l n → Q v { s with heap := h' }) :
    wpAny (model prog w) A (call (.builtin "re.Pattern.search") [.ref 36, .str x t]) Q E s := by
  cases H with
  | stop H => exact search_none_K F X H (h s.heap .none [] F N (fun _ hp => nomatch hp) (.stop H))
  | go H K =>
    refine search_some_K F N X H fun h' a T F' N' l1 l2 => h h' (.ref a) [(a, _), (T, _)] F' N' (fun p hp q hq => ?_) (.go List.mem_cons_self (List.mem_cons_of_mem _ List.mem_cons_self) H K)
    rcases List.mem_cons.mp hp with rfl | hp
    · exact Nat.lt_trans (l1 q hq) l2
    · rw [List.mem_singleton.mp hp]; exact l1 q hq
end
theorem addTo_no {p : Pair} {l : List Pair} (h : isPct p = false) : addTo p l = p :: l := by rw [addTo, h]; rfl
theorem reorder {h₀ h : Heap} {L : Addr} {d p1 p2 p3 r : Addr × Obj} {ex objs : List (Addr × Obj)} (N : News h₀ L h (d :: (ex ++ p1 :: p2 :: p3 :: r :: objs))) : News h₀ L h (r :: d :: (ex ++ objs)) := fun p hp => N p (by
  rcases List.mem_cons.mp hp with rfl | hp
  · exact List.mem_cons_of_mem _ (List.mem_append_right _ (List.mem_cons_of_mem _ (List.mem_cons_of_mem _ (List.mem_cons_of_mem _ List.mem_cons_self))))
  · rcases List.mem_cons.mp hp with rfl | hp
    · exact List.mem_cons_self
    · refine List.mem_cons_of_mem _ ?_
      rcases List.mem_append.mp hp with hp | hp
      · exact List.mem_append_left _ hp
      · exact List.mem_append_right _ (List.mem_cons_of_mem _ (List.mem_cons_of_mem _ (List.mem_cons_of_mem _ (List.mem_cons_of_mem _ hp)))))
theorem canon3 (M : Str → Option Value) (a b c : Str) : M = fun y => if y = a then M a else if y = b then M b else if y = c then M c else M y := by
  funext y
  by_cases h1 : y = a
  · rw [if_pos h1, h1]
  · rw [if_neg h1]
    by_cases h2 : y = b
    · rw [if_pos h2, h2]
    · rw [if_neg h2]
      by_cases h3 : y = c
      · rw [if_pos h3, h3]
      · rw [if_neg h3]

local macro_rules | `(tactic| walk_at "exec While Compare cons nil") => `(tactic| refine Stop.of ?_)
local macro_rules | `(tactic| k_all) => `(tactic| assumption)
local macro_rules | `(tactic| walk_at "getMethod ref") => `(tactic| (k_here; k_dflt (first
  | (refine' getMethod_search ?F ?X ?_; (case F => k_asm); (case X => k_asm); k_whole)
  | (refine' getMethod_groups ?N ?hm ?_; (case N => k_asm); (case hm => k_mem); k_whole; dsimp only)
  | (refine' getMethod_end ?N ?hm ?_; (case N => k_asm); (case hm => k_mem); k_whole; dsimp only))))
local macro_rules | `(tactic| walk_at "call builtin:re.Match.groups") => `(tactic| (k_here; k_dflt (refine' groups_K ?F ?N ?ha ?hT ?hx ?_; (case F => k_asm); (case N => k_asm); (case ha => k_mem); (case hT => k_mem); (case hx => assumption); k_whole); intro h' g' t1 t2 t3 tk' F' N' l1; (try k_lt l1); (try dsimp only [cutV] at N'); (try k_sweep)))
local macro_rules | `(tactic| walk_at "call builtin:re.Match.end") => `(tactic| (k_here; k_dflt (refine' end_K ?N ?ha ?hT ?_; (case N => k_asm); (case ha => k_mem); (case hT => k_mem); k_whole)))

section
variable {w : World} {mg mb : Str → Option Value} {mean : ExcName → Option Value}

/-- between the turns of _parse's while -/
def PJ (news₀ : List (Addr × Obj)) (r : Addr) (l : List Pair) (n : Nat) (m : Str → Option Value) (news : List (Addr × Obj)) : Prop :=
  ∃ x t MV acc l' vs k objs, m "match" = some MV ∧ m "result" = some (.ref r) ∧ m "string" = some (.str x t) ∧ news = (r, { cls := .type "list", data := .seq vs.toArray k }) :: objs ∧
    (∀ p ∈ objs, p.1 ≠ r) ∧ (∀ p ∈ news₀, p ∈ objs) ∧ PairsAt objs vs acc ∧ vs.length + n ≤ 100000 ∧ acc ++ l' = l ∧ MatchIs objs x t MV l' n

theorem parse_tells (x : Str) (t : Tok) (l : List Pair) (n : Nat) (hP : Parses x l n) (hn : n ≤ 100000) : Tell w mg mb mean 20 200 60 [.str x t] (fun _ _ => True) (fun tl r => ∃ a vs k, r = .ref a ∧ (a, { cls := .type "list", data := .seq vs.toArray k }) ∈ tl ∧ PairsAt tl vs l) := by
  k_with_none
  w_top off
  unfold Tell
  intro dp un gd cn cs a ccd cl outer A₀ base h₀ L m news s Q E B F X N T hk hd hu _ ret
  revert X; k_fill; intro X
  refine wpAny_call ?_
  k_dflt ktr_enter
  k_steps
  rename_i r hA l1 h₁ F₁ N₁
  refine search_parses F₁ N₁ (by k_asm) hP fun h₂ MV ex F₂ N₂ lx hM => ?_
  clear F₁ N₁
  k_steps
  refine Stop.on ?_
  rename_i F₃ N₃
  have hobj : ∀ p ∈ ex, p.1 ≠ r := fun p hp => Nat.ne_of_gt (lx p hp _ List.mem_cons_self)
  have N₄ : News _ _ _ ((r, ({ cls := .type "list", data := .seq ([] : List Value).toArray 0 } : Obj)) :: (ex ++ news)) := fun p hp => N₃ p (by
    rcases List.mem_cons.mp hp with rfl | hp
    · exact List.mem_append_right _ List.mem_cons_self
    · rcases List.mem_append.mp hp with hp | hp
      · exact List.mem_append_left _ hp
      · exact List.mem_append_right _ (List.mem_cons_of_mem _ hp))
  clear N₃
  refine While_go (PJ news r l) F₃ N₄ (n₀ := n) ⟨x, t, MV, [], l, [], 0, ex ++ news, rfl, rfl, rfl, rfl, ?_, fun p hp => List.mem_append_right _ hp, .nil, ?_, rfl, hM.mono fun p hp => List.mem_append_left _ hp⟩ ?_
  · intro p hp
    rcases List.mem_append.mp hp with hp | hp
    · exact hobj p hp
    · exact Nat.ne_of_lt (l1 p hp)
  · rw [List.length_nil, Nat.zero_add]; exact hn
  clear F₃ N₄ hobj hM
  rintro n₁ m₁ news₁ h₁ tk₁ F₅ N₅ ⟨x₁, t₁, MV₁, acc, l', vs, k, objs, e1, e2, e3, rfl, hoff, hin, hpairs, hlen, hacc, hM⟩
  rw [canon3 m₁ "match" "result" "string", e1, e2, e3] at F₅
  cases hM with
  | stop H =>
    k_steps
    have kN₅ : News h₀ L h₁ ((r, { cls := .type "list", data := .seq vs.toArray k }) :: objs) := by k_asm
    rw [List.append_nil] at hacc
    subst hacc
    refine ret _ ((r, { cls := .type "list", data := .seq vs.toArray k }) :: objs) _ _ (by k_asm) (fun p hp => ?_) ⟨r, vs, k, rfl, List.mem_cons_self, hpairs.mono fun p hp => List.mem_cons_of_mem _ hp⟩
    rcases List.mem_append.mp hp with hp | hp
    · exact kN₅ p hp
    · exact kN₅ p (List.mem_cons_of_mem _ (hin p hp))
  | @go a₂ T₂ b f e n₂ nm l₂ h1 h2 H K =>
    have ha := neN (hoff _ h1)
    have hT := neN (hoff _ h2)
    dsimp only at ha hT
    have N₆ := newsAdd (newsAdd N₅ (List.mem_cons_of_mem _ h2)) (List.mem_cons_of_mem _ (List.mem_cons_of_mem _ h1))
    clear N₅
    have hx : x₁.cps.size ≤ 1000000 ∧ e + 1 ≤ x₁.cps.size := by cases H; exact ⟨by assumption, by assumption⟩
    obtain ⟨hx, he⟩ := hx
    rcases nm with _ | q
    all_goals k_steps
    all_goals (refine search_parses (by k_asm) (by k_asm) (by k_asm) K fun h₂ MV₂ ex₂ F₂ N₂ lx₂ hM₂ => ?_)
    all_goals k_steps
    · rename_i F₇ N₇ _ hc
      refine GoEnd.intro (.inr rfl) F₇ (news₂ := (r, _) :: (ex₂ ++ objs)) (fun p hp => N₇ p ?_) (Nat.lt_succ_self n₂) ⟨_, _, MV₂, acc, l₂, vs, k, ex₂ ++ objs, rfl, rfl, rfl, rfl, ?_, fun p hp => List.mem_append_right _ (hin p hp), hpairs.mono fun p hp => List.mem_append_right _ hp, by omega, ?_, hM₂.mono fun p hp => List.mem_append_left _ hp⟩
      · rcases List.mem_cons.mp hp with rfl | hp
        · exact List.mem_append_right _ (List.mem_cons_of_mem _ (List.mem_cons_of_mem _ (List.mem_cons_of_mem _ List.mem_cons_self)))
        · rcases List.mem_append.mp hp with hp | hp
          · exact List.mem_append_left _ hp
          · exact List.mem_append_right _ (List.mem_cons_of_mem _ (List.mem_cons_of_mem _ (List.mem_cons_of_mem _ (List.mem_cons_of_mem _ hp))))
      · intro p hp
        rcases List.mem_append.mp hp with hp | hp
        · exact Nat.ne_of_gt (lx₂ p hp (r, _) (List.mem_cons_of_mem _ (List.mem_cons_of_mem _ (List.mem_cons_of_mem _ List.mem_cons_self))))
        · exact hoff p hp
      · rw [← hacc, addTo, if_pos (by simp only [isPct, pairOf]; rw [hc]; rfl)]
    all_goals (
      rename_i hc D₇ h₇ F₇ N₇ l₇
      have off₇ : ∀ o : Obj, ∀ p ∈ (D₇, o) :: (ex₂ ++ objs), p.1 ≠ r := fun o p hp => by
        rcases List.mem_cons.mp hp with rfl | hp
        · exact Nat.ne_of_gt (l₇ (r, _) (List.mem_append_right _ (List.mem_cons_of_mem _ (List.mem_cons_of_mem _ (List.mem_cons_of_mem _ List.mem_cons_self)))))
        · rcases List.mem_append.mp hp with hp | hp
          · exact Nat.ne_of_gt (lx₂ p hp (r, _) (List.mem_cons_of_mem _ (List.mem_cons_of_mem _ (List.mem_cons_of_mem _ List.mem_cons_self))))
          · exact hoff p hp
      refine append_top F₇ (reorder N₇) (off₇ _) (by omega) fun h₈ F₈ N₈ => ?_
      clear l₇ N₇ F₇
      k_steps)
    · refine GoEnd.intro (.inl rfl) F₈ N₈ (Nat.lt_succ_self n₂) ⟨_, _, MV₂, acc ++ [pairOf x₁ none e], l₂, vs ++ [.ref D₇], k + 1, _, rfl, rfl, rfl, rfl, off₇ _, fun p hp => List.mem_cons_of_mem _ (List.mem_append_right _ (hin p hp)),
        PairsAt.snoc (p := pairOf x₁ none e) (t1 := 0) (hpairs.mono fun p hp => List.mem_cons_of_mem _ (List.mem_append_right _ hp)) List.mem_cons_self, by rw [List.length_append]; simp only [List.length_singleton]; omega, ?_, hM₂.mono fun p hp => List.mem_cons_of_mem _ (List.mem_append_left _ hp)⟩
      rw [← hacc, addTo_no (by simp only [isPct, pairOf]; first | (rw [hc]; rfl) | (simp; done)), List.append_assoc]
      rfl
    · refine GoEnd.intro (.inl rfl) F₈ N₈ (Nat.lt_succ_self n₂) ⟨_, _, MV₂, acc ++ [pairOf x₁ (some q) e], l₂, vs ++ [.ref D₇], k + 1, _, rfl, rfl, rfl, rfl, off₇ _, fun p hp => List.mem_cons_of_mem _ (List.mem_append_right _ (hin p hp)),
        PairsAt.snoc (p := pairOf x₁ (some q) e) (hpairs.mono fun p hp => List.mem_cons_of_mem _ (List.mem_append_right _ hp)) List.mem_cons_self, by rw [List.length_append]; simp only [List.length_singleton]; omega, ?_, hM₂.mono fun p hp => List.mem_cons_of_mem _ (List.mem_append_left _ hp)⟩
      rw [← hacc, addTo_no (by simp only [isPct, pairOf]; first | (rw [hc]; rfl) | (simp; done)), List.append_assoc]
      rfl
    · refine GoEnd.intro (.inl rfl) F₈ N₈ (Nat.lt_succ_self n₂) ⟨_, _, MV₂, acc ++ [pairOf x₁ (some q) e], l₂, vs ++ [.ref D₇], k + 1, _, rfl, rfl, rfl, rfl, off₇ _, fun p hp => List.mem_cons_of_mem _ (List.mem_append_right _ (hin p hp)),
        PairsAt.snoc (p := pairOf x₁ (some q) e) (hpairs.mono fun p hp => List.mem_cons_of_mem _ (List.mem_append_right _ hp)) List.mem_cons_self, by rw [List.length_append]; simp only [List.length_singleton]; omega, ?_, hM₂.mono fun p hp => List.mem_cons_of_mem _ (List.mem_append_left _ hp)⟩
      rw [← hacc, addTo_no (by simp only [isPct, pairOf]; first | (rw [hc]; rfl) | (simp; done)), List.append_assoc]
      rfl
end
end Mine
end
section
open PySem PySem.W PyProof.Rows
set_option maxRecDepth 100000
set_option maxHeartbeats 8000000
namespace Mine
open PySem.Calls PyProof.V PySem.Spec PySem.Builtin.Re

/-- what a call of one of the text's functions does that may raise a TranslationError with one of the texts Bad -/
def TellR (w : World) (mg mb : Str → Option Value) (mean : ExcName → Option Value) (bd bu : Nat) (f : Addr) (args : List Value) (Pre : Heap → List (Addr × Obj) → Prop) (Out : List (Addr × Obj) → Value → Prop) (Bad : Str → Prop) : Prop :=
  ∀ (dp un : Nat) (gd : Option (List Code)) (cn : Str) (cs : Scope) (a : Addr) (ccd : Value) (cl : List (Str × Addr)) (outer : List Env) (A₀ : Around) (base h₀ : Heap) (L : Addr) (m : Str → Option Value) (news : List (Addr × Obj)) (s : Shared)
    (Q E : Value → Shared → Prop),
    Below A₀ base outer h₀ → Fr h₀ L s.heap m → (Mine.hd.heap_39 w.params).In h₀ → News h₀ L s.heap news →
    Top Mine.hd.view_39 (looseW Mine.hd.view_39 [Str.ofString "PYTHON_FORMAT", Str.ofString "_string_format_compatibilities"]) mean mg mb h₀ →
    cs.kind = .function → dp + bd < recursionLimit → un + bu < cLine → Pre base news →
    (∀ r tl h' tk', Fr h₀ L h' m → News h₀ L h' (tl ++ news) → Out tl r → Q r { s with heap := h', toks := tk' }) →
    (∀ e t x tx h' tk' g₂, Bad x → Fr h₀ L g₂ m → g₂.UpToSlots h' → RaisedK base (envX cn cs L a ccd cl :: outer) e (.ref 46) t [.str x tx] news h' → E (.ref e) { s with heap := h', toks := tk' }) →
    wpAny (model PySem.Challenge.rw_ey0006_01.row.prog w) (ktrTop dp un gd cn cs L a ccd cl outer) (call (.ref f) args) Q E s

def posOf : List Pair → Bool
  | [] => false
  | p :: _ => p.1.isNone
def mixes (ps : List Pair) : Bool := ps.any fun p => p.1.isNone != posOf ps
theorem mixes_true {p : Pair} {ps : List Pair} (hp : p ∈ ps) (h : (p.1.isNone != posOf ps) = true) : mixes ps = true := List.any_eq_true.mpr ⟨p, hp, h⟩
theorem mixes_false {ps : List Pair} (h : ∀ p ∈ ps, p.1.isNone = posOf ps) : mixes ps = false := List.any_eq_false.mpr fun p hp => by rw [h p hp]; simp
theorem raisedK_sub {base h : Heap} {l : List Env} {e t : Addr} {cls : Value} {vs : List Value} {news news' : List (Addr × Obj)} (R : RaisedK base l e cls t vs news h) (k : ∀ p ∈ news', p ∈ news) : RaisedK base l e cls t vs news' h := by
  obtain ⟨⟨B, h1, h2, h3⟩, h4⟩ := R
  exact ⟨⟨B, h1, fun q hq => h2 q (k q hq), h3⟩, h4⟩
abbrev mixMsg : Str := "format string mixes positional and named placeholders"

local macro_rules | `(tactic| walk_at "exec For Tuple Name cons nil") => `(tactic| (k_here; (rename Fr _ _ _ _ => lF'); (with_unfolding_all refine' For_turns lF' ?_; k_whole)))
local macro_rules | `(tactic| walk_at "ItemsRest") => `(tactic| refine Stop.of ?_)
local macro_rules | `(tactic| walk_at "pyIter ref") => `(tactic| (k_here; (with_reducible show wpAny _ _ (pyIter (Value.ref _)) (fun it s₂ => TurnsAt _ _ _ _ _ _ _ _ _ it s₂) _ _); k_dflt (refine' iter_listTurns ?h ?F ?N ?m ?c ?d ?_; (case h => with_unfolding_all rfl); (case F => k_asm); (case N => k_asm); (case m => assumption); (case c => exact rfl); (case d => exact rfl); k_whole)))

section
variable {w : World} {mg mb : Str → Option Value} {mean : ExcName → Option Value}
theorem check_tells (l : Addr) (vs : List Value) (k : Nat) (ps : List Pair) : TellR w mg mb mean 20 200 74 [.ref l] (fun _ news => (l, ({ cls := .type "list", data := .seq vs.toArray k } : Obj)) ∈ news ∧ PairsAt news vs ps)
    (fun tl r => tl = [] ∧ mixes ps = false ∧ r = .bool (posOf ps)) (fun x => mixes ps = true ∧ x = mixMsg) := by
  k_with_none
  w_top off
  unfold TellR
  intro dp un gd cn cs a ccd cl outer A₀ base h₀ L m news s Q E B F X N T hk hd hu hP ret exc
  obtain ⟨hl, hps⟩ := hP
  revert X; k_fill; intro X
  refine wpAny_call ?_
  k_dflt ktr_enter
  k_steps
  refine Stop.on ?_
  rename_i I lI
  refine rest_inv (fun xs M n => n = news ∧ ∃ vs' ps' pre, xs = vs'.map .val ∧ PairsAt news vs' ps' ∧ ps = pre ++ ps' ∧ M "positional" = some (match pre with | [] => .none | _ :: _ => .bool (posOf ps)) ∧ ∀ p ∈ pre, p.1.isNone = posOf ps) ?_ ?_ _ _ _
    ⟨rfl, vs, ps, [], rfl, hps, rfl, rfl, fun _ hp => nomatch hp⟩
  · rintro M n h₂ tk₂ ⟨rfl, vs', ps', pre, hxs, hps', hpre, hM, hall⟩ F₂ N₂
    rw [canon1 M "positional", hM] at F₂
    cases hps' with
    | cons _ _ => cases hxs
    | nil =>
      rw [List.append_nil] at hpre
      subst hpre
      rcases ps with _ | ⟨p, r⟩
      all_goals (dsimp only at F₂; k_steps)
      · exact ret _ [] _ _ (by k_asm) (by k_asm) ⟨rfl, rfl, rfl⟩
      · exact ret _ [] _ _ (by k_asm) (by k_asm) ⟨rfl, mixes_false hall, rfl⟩
  · rintro a r M n v h₂ tk₂ ⟨rfl, vs', ps', pre, hxs, hps', hpre, hM, hall⟩ hv F₂
    rw [canon1 M "positional", hM] at F₂
    cases hps' with
    | nil => cases hxs
    | @cons a₁ p t1 t2 vs₁ ps₁ hm hps₁ =>
      rw [List.map_cons] at hxs
      obtain ⟨rfl, rfl⟩ := List.cons.inj hxs
      obtain rfl : v = .ref a₁ := hv
      refine AllObj.cons fun o hc => AllObj.nil fun N₂ => ?_
      have N₃ := newsAdd N₂ (List.mem_append_right _ hm)
      clear N₂
      obtain ⟨nm, y⟩ := p
      have hin : (nm, y) ∈ ps := by rw [hpre]; exact List.mem_append_right _ List.mem_cons_self
      have hgo : ∀ b : Bool, nm.isNone = b → (b != posOf ps) = false → ∀ q ∈ pre ++ [(nm, y)], q.1.isNone = posOf ps := fun b hb hq q hm' => by
        rcases List.mem_append.mp hm' with h | h
        · exact hall q h
        · rw [List.mem_singleton.mp h, hb]; simpa using hq
      have hap : ps = (pre ++ [(nm, y)]) ++ ps₁ := by rw [hpre, List.append_assoc]; rfl
      rcases nm with _ | nm
      all_goals (rcases pre with _ | ⟨p₀, pre⟩)
      all_goals (dsimp only [tup2, nameV, List.cons_append, List.nil_append] at F₂ N₃)
      all_goals k_steps
      · refine endW1 (by k_asm) (newsTail (by k_asm)) lI ⟨⟨hl, trivial⟩, rfl, vs₁, ps₁, [(none, y)], rfl, hps₁, hap, ?_, hgo true rfl (by rw [hpre]; rfl)⟩
        show _ = some (Value.bool (posOf ps))
        rw [hpre]; rfl
      · rename_i R₁ U₁
        refine exc _ _ _ _ _ _ _ ⟨mixes_true hin (by assumption), rfl⟩ (by assumption) U₁ (raisedK_sub R₁ fun p hp => ?_)
        exact List.mem_cons_of_mem _ (List.mem_cons_of_mem _ hp)
      · refine endW1 (by k_asm) (newsTail (by k_asm)) lI ⟨⟨hl, trivial⟩, rfl, vs₁, ps₁, p₀ :: pre ++ [(none, y)], rfl, hps₁, hap, rfl, hgo true rfl (by assumption)⟩
      · refine endW1 (by k_asm) (newsTail (by k_asm)) lI ⟨⟨hl, trivial⟩, rfl, vs₁, ps₁, [(some nm, y)], rfl, hps₁, hap, ?_, hgo false rfl (by rw [hpre]; rfl)⟩
        show _ = some (Value.bool (posOf ps))
        rw [hpre]; rfl
      · rename_i R₁ U₁
        refine exc _ _ _ _ _ _ _ ⟨mixes_true hin (by assumption), rfl⟩ (by assumption) U₁ (raisedK_sub R₁ fun p hp => ?_)
        exact List.mem_cons_of_mem _ (List.mem_cons_of_mem _ hp)
      · refine endW1 (by k_asm) (newsTail (by k_asm)) lI ⟨⟨hl, trivial⟩, rfl, vs₁, ps₁, p₀ :: pre ++ [(some nm, y)], rfl, hps₁, hap, rfl, hgo false rfl (by assumption)⟩
end
end Mine
end
section
open PySem PySem.W PyProof.Rows
set_option maxRecDepth 100000
set_option maxHeartbeats 8000000
namespace Mine
open PySem.Calls PyProof.V PySem.Spec

theorem text_d {a : Int} (h0 : 0 ≤ a) : intSpecTextOf (Str.ofString "d") a = Str.ofString (toString a) := by
  obtain ⟨f, hf, hw, hg, hs, hl, hr⟩ : ∃ f : Builtin.Float.FormatSpec, Builtin.Float.parseFormatSpec (Str.ofString "d").cps.toList "int" 62 = Except.ok f ∧ f.width = none ∧ f.grouping = none ∧ f.sign = none ∧ f.fill = 32 ∧ f.align = 62 := ⟨_, rfl, rfl, rfl, rfl, rfl, rfl⟩
  have e : intSpecTextOf (Str.ofString "d") a = intSpecText f a := by unfold intSpecTextOf; rw [hf]
  rw [e]
  obtain ⟨m, rfl⟩ := Int.eq_ofNat_of_zero_le h0
  rw [show (toString ((m : Nat) : Int)) = toString (Int.ofNat m) from rfl, text_ofNat m]
  have hd : ((Nat.toDigits 10 m).map fun c => (if (100 : Nat) == 88 then c.toUpper else c).toNat).isEmpty = false := by
    have := tDigits_len_ge 10 m
    cases h : Nat.toDigits 10 m with
    | nil => rw [h] at this; simp at this
    | cons _ _ => rfl
  unfold intSpecText intField'
  have hneg : decide ((m : Int) < 0) = false := decide_eq_false (by omega)
  simp only [Int.natAbs_natCast, hd, hneg, hw, hg, hs, hl, hr]
  simp
theorem field_d {prog : Program} {w : World} {A : Around} {E : Value → Shared → Prop} {s : Shared} {a : Int} {t : Tok} {Q : Value → Shared → Prop} (hn : s.heap.NoDigits) (h0 : 0 ≤ a) (h1 : a < 1000000000)
    (h : ∀ t' k, Q (.str (Str.ofString (toString a)) t') { s with toks := k }) : wpAny (model prog w) A (formatField (.int a t) (Str.ofString "d")) Q E s :=
  formatField_int_specOf hn (lt_digitLimit_of_lt (by omega)) (by decide +kernel) (fun W hW f => by rw [text_d h0]; exact h _ _)
end Mine
end
section
set_option maxRecDepth 100000
set_option maxHeartbeats 8000000
namespace Mine.Ez
open PySem
open Sem (wp)
open AutoSeq1 (wpAny_loadPart')

/-- a zip with all its fields -/
abbrev ZipIs (h : Heap) (z TI TO : Addr) (f0 : Value) (f1 : Bool) : Prop :=
  h.get? z = some { cls := .type "zip", dict := none, data := .fields #[f0, .bool f1, .bool false, .ref TI, .ref TO], slots := #[] }

theorem meets_enumerate_newZ (z TI TO : Addr) (f0 : Value) :
    Meets (Builtin.«enumerate.__new__» ⟨[.type "enumerate", .ref z], []⟩) (fun _ R s => IsZip s.heap z TI TO f0 ∧
      R (.ok (.ret (.ref s.heap.objs.size)))
        { s with heap := s.heap.push { cls := .type "enumerate", data := .fields #[.none, .bool false, .ref z, rawInt 0, .none, .none] } }) :=
  .of_wp fun prog w A R s h => by
    obtain ⟨hp, g, d, tk, os⟩ := s; obtain ⟨hl, h⟩ := h
    have hsub := sub_enumerate
    have hL : IsZip (Shared.heap ⟨hp, g, d, tk, os⟩) z TI TO f0 := hl
    wp_walk using wpAny_loadPart' hl
    refine wpAny_stack_any fun st => wpAny_pure ?_
    split
    · rename_i c _ _ _ _ _
      cases (c == Value.type "enumerate")
      · wp_walk using wpAny_loadPart' hl, wpAny_pyIter_zip hL
        exact ⟨_, rfl, h⟩
      · wp_walk using wpAny_loadPart' hl, wpAny_pyIter_zip hL
        exact ⟨_, rfl, h⟩
    · wp_walk using wpAny_loadPart' hl, wpAny_pyIter_zip hL
      exact ⟨_, rfl, h⟩

section
variable {prog : Program} {w : World} {A : Around} {E : Value → Shared → Prop} {s : Shared}
theorem call_enumerate_zip {z TI TO : Addr} {f0 : Value} {Q : Value → Shared → Prop} (hz : IsZip s.heap z TI TO f0)
    (h : ∀ h', IsEnum h' s.heap.objs.size z 0 .none → h'.objs.size = s.heap.objs.size + 1 →
      (∀ b o, s.heap.get? b = some o → h'.get? b = some o) → Q (.ref s.heap.objs.size) { s with heap := h' }) :
    wpAny (model prog w) A (call (.type "enumerate") [.ref z]) Q E s := by
  refine callType_new F.called_enumerate (by decide) (F.typeCall_enumerate_1 _) (F.newCall_enumerate_1 _) (fun obj => F.args_object_init_2 obj _) F.entry_enumerate_new
    (meets_enumerate_newZ z TI TO f0) ⟨hz, ?_⟩
  have he : IsEnum (s.heap.push { cls := .type "enumerate", data := .fields #[.none, .bool false, .ref z, rawInt 0, .none, .none] }) s.heap.objs.size z 0 .none :=
    Heap.get?_push_size _ rfl
  exact ⟨⟨_, he, rfl⟩, h _ he (Heap.size_push ..) fun b o x => Heap.get?_push_of_some _ x⟩

theorem alive_load {a : Addr} {o : Obj} {Q : Option Obj → Shared → Prop} (ho : s.heap.get? a = some o) (h : Q (some o) s) : wpAny (model prog w) A (loadIfAlive a) Q E s := fun Γ p _ => by
  show wp _ Γ (.loadIfAlive a .pure) _ _ p s
  rw [Sem.wp_loadIfAlive, ho]
  exact h

theorem zip_taken {z TI TO Z : Addr} {oz : Obj} {f1 : Bool} {Q : Bool → Shared → Prop} (hz : ZipIs s.heap z TI TO (rawInt Z) f1) (hZ : s.heap.get? Z = some oz)
    (h : ∀ h', ZipIs h' z TI TO (rawInt Z) true → Heap.SameBut z s.heap h' → Q false { s with heap := h' }) : wpAny (model prog w) A (Builtin.SmallTypes.ownedTupleIsFree (.ref z)) Q E s := by
  unfold Builtin.SmallTypes.ownedTupleIsFree
  refine wpAny_bind (wpAny_field hz rfl (x := rawInt Z) rfl ?_)
  show wpAny _ _ (loadIfAlive ((Z : Int).toNat) >>= _) _ _ _
  refine wpAny_bind (alive_load (o := oz) (by simpa using hZ) ?_)
  simp only [Option.isNone_some, Bool.false_eq_true, if_false]
  refine wpAny_bind (wpAny_field hz rfl (x := .bool f1) rfl ?_)
  cases f1
  · rw [if_pos (by rfl)]
    refine wpAny_bind (wpAny_setField_rec hz (by simp) fun h₁ hz₁ hs₁ => ?_)
    replace hz₁ : ZipIs h₁ z TI TO (rawInt Z) true := hz₁
    exact wpAny_pure (h h₁ hz₁ hs₁)
  · rw [if_neg (by simp)]
    exact wpAny_pure (h s.heap hz (.refl ..))

/-- a later draw of the zip: the first pair still stands, so it makes a new one -/
theorem zip_next_later {z TI TO i1 i2 l1 l2 Z : Addr} {oz : Obj} {f1 : Bool} {k1 k2 : Nat} {xs ys : Array Value} {x y : Value} {Q : Value → Shared → Prop} (D : ZipApart z TI TO i1 i2 l1 l2)
    (hz : ZipIs s.heap z TI TO (rawInt Z) f1) (hZ : s.heap.get? Z = some oz) (hTI : IsPair s.heap TI (.ref i1) (.ref i2))
    (h1 : s.heap.IsListIter i1 l1 k1) (h2 : s.heap.IsListIter i2 l2 k2) (hl1 : s.heap.IsList l1 xs) (hl2 : s.heap.IsList l2 ys) (hx : xs[k1]? = some x) (hy : ys[k2]? = some y)
    (hQ : ∀ h', ZipIs h' z TI TO (rawInt Z) true → h'.IsListIter i1 l1 (k1 + 1) → h'.IsListIter i2 l2 (k2 + 1) → IsPair h' s.heap.objs.size x y → h'.objs.size = s.heap.objs.size + 1 →
      (∀ c o, c ≠ z → c ≠ i1 → c ≠ i2 → s.heap.get? c = some o → h'.get? c = some o) → Q (.ref s.heap.objs.size) { s with heap := h' }) :
    wpAny (model prog w) A (Builtin.«zip.__next__» ⟨[.ref z], []⟩) (fun fin s' => ∃ v, fin = .done (.ret v) ∧ Q v s') E s := by
  show wpAny _ _ (field (.ref z) 2 >>= _) _ _ _
  refine wpAny_bind (wpAny_field hz rfl (x := .bool false) rfl ?_)
  show wpAny _ _ (field (.ref z) 3 >>= _) _ _ _
  refine wpAny_bind (wpAny_field hz rfl (x := .ref TI) rfl ?_)
  refine wpAny_bind (wpAny_seqItems hTI rfl ?_)
  show wpAny _ _ (Builtin.SmallTypes.ownedTupleIsFree (.ref z) >>= _) _ _ _
  refine wpAny_bind (zip_taken hz hZ fun h₁ hz₁ hs₁ => ?_)
  simp only [Bool.false_eq_true, if_false]
  show wpAny _ _ (forIn [Value.ref i1, Value.ref i2].toArray _ _ >>= _) _ _ _
  refine wpAny_bind ?_
  simp only [List.forIn_toArray, List.forIn_cons, List.forIn_nil]
  refine wpAny_bind (wpAny_bind (wpAny_holding ?_))
  show wpAny _ _ (Builtin.SmallTypes.nextOf (.ref i1) >>= _) _ _ _
  refine wpAny_bind (wpAny_nextOf_list_item (h1.extBut hs₁.extBut D.i1z) (hl1.extBut hs₁.extBut D.l1z) hx fun h₂ h1₂ hs₂ => wpAny_pure ?_)
  refine wpAny_pure ?_
  refine wpAny_bind (wpAny_bind (wpAny_holding ?_))
  show wpAny _ _ (Builtin.SmallTypes.nextOf (.ref i2) >>= _) _ _ _
  refine wpAny_bind (wpAny_nextOf_list_item ((h2.extBut hs₁.extBut D.i2z).extBut hs₂.extBut D.i12.symm)
    ((hl2.extBut hs₁.extBut D.l2z).extBut hs₂.extBut D.l2i1) hy fun h₃ h2₃ hs₃ => wpAny_pure ?_)
  refine wpAny_pure (wpAny_pure ?_)
  show wpAny _ _ (newTuple [x, y] >>= _) _ _ _
  refine wpAny_bind (wpAny_newTuple ?_)
  have hsz : h₃.objs.size = s.heap.objs.size := by rw [hs₃.1, hs₂.1, hs₁.1]
  refine wpAny_pure ⟨_, rfl, ?_⟩
  show Q (.ref h₃.objs.size) _
  rw [hsz]
  have up : ∀ c o, c ≠ z → c ≠ i1 → c ≠ i2 → s.heap.get? c = some o → h₃.get? c = some o := fun c o c1 c2 c3 e =>
    hs₃.extBut _ _ c3 (hs₂.extBut _ _ c2 (hs₁.extBut _ _ c1 e))
  refine hQ _ (Heap.get?_push_of_some _ (hs₃.extBut _ _ D.i2z.symm (hs₂.extBut _ _ D.i1z.symm hz₁))) ((h1₂.extBut hs₃.extBut D.i12).at fun o e => Heap.get?_push_of_some _ e) (h2₃.at fun o e => Heap.get?_push_of_some _ e) ?_ (by rw [Heap.size_push, hsz]) fun c o c1 c2 c3 e => Heap.get?_push_of_some _ (up c o c1 c2 c3 e)
  rw [← hsz]
  exact Heap.get?_push_size _ rfl

theorem zip_next_done {z TI TO i1 i2 l1 l2 Z : Addr} {oz : Obj} {f1 : Bool} {k1 : Nat} {xs : Array Value} {Q : Fin → Shared → Prop} (hh : A.handled = none) (D : ZipApart z TI TO i1 i2 l1 l2)
    (hz : ZipIs s.heap z TI TO (rawInt Z) f1) (hZ : s.heap.get? Z = some oz) (hTI : IsPair s.heap TI (.ref i1) (.ref i2))
    (h1 : s.heap.IsListIter i1 l1 k1) (hl1 : s.heap.IsList l1 xs) (hx : xs[k1]? = none)
    (hE : ∀ h' e, (∀ c o, c ≠ z → c ≠ i1 → c ≠ i2 → s.heap.get? c = some o → h'.get? c = some o) → (∃ o, h'.get? e = some o ∧ o.cls = .type "StopIteration") → E (.ref e) { s with heap := h' }) :
    wpAny (model prog w) A (Builtin.«zip.__next__» ⟨[.ref z], []⟩) Q E s := by
  show wpAny _ _ (field (.ref z) 2 >>= _) _ _ _
  refine wpAny_bind (wpAny_field hz rfl (x := .bool false) rfl ?_)
  show wpAny _ _ (field (.ref z) 3 >>= _) _ _ _
  refine wpAny_bind (wpAny_field hz rfl (x := .ref TI) rfl ?_)
  refine wpAny_bind (wpAny_seqItems hTI rfl ?_)
  show wpAny _ _ (Builtin.SmallTypes.ownedTupleIsFree (.ref z) >>= _) _ _ _
  refine wpAny_bind (zip_taken hz hZ fun h₁ hz₁ hs₁ => ?_)
  simp only [Bool.false_eq_true, if_false]
  show wpAny _ _ (forIn [Value.ref i1, Value.ref i2].toArray _ _ >>= _) _ _ _
  refine wpAny_bind ?_
  simp only [List.forIn_toArray, List.forIn_cons, List.forIn_nil]
  refine wpAny_bind (wpAny_bind (wpAny_holding ?_))
  show wpAny _ _ (Builtin.SmallTypes.nextOf (.ref i1) >>= _) _ _ _
  refine wpAny_bind (wpAny_nextOf_list_end hh (h1.extBut hs₁.extBut D.i1z) (hl1.extBut hs₁.extBut D.l1z) hx fun h₂ e hs₂ he => ?_)
  exact hE h₂ e (fun c o c1 c2 c3 x => hs₂ _ _ c2 (hs₁.extBut _ _ c1 x)) he

/-- the zip between two draws -/
structure ZipBase (I l1 l2 : Addr) (xs ys : List Value) (i : Nat) (h : Heap) : Prop where
  ti : IsPair h (I + 2) (.ref I) (.ref (I + 1))
  to : ∃ a b, IsPair h (I + 3) a b
  i1 : h.IsListIter I l1 i
  i2 : h.IsListIter (I + 1) l2 i
  l1 : h.IsList l1 xs.toArray
  l2 : h.IsList l2 ys.toArray
def ZipOn (I l1 l2 : Addr) (xs ys : List Value) (i : Nat) (h : Heap) : Prop :=
  (∃ Z o b, I + 6 ≤ Z ∧ ZipIs h (I + 4) (I + 2) (I + 3) (rawInt Z) b ∧ h.get? Z = some o) ∧ ZipBase I l1 l2 xs ys i h
def ZipAt (I l1 l2 : Addr) (xs ys : List Value) (i : Nat) (h : Heap) : Prop :=
  (IsZip h (I + 4) (I + 2) (I + 3) .none ∧ ZipBase I l1 l2 xs ys i h) ∨ ZipOn I l1 l2 xs ys i h

theorem zip_draw {I l1 l2 : Nat} {xs ys : List Value} {i : Nat} {x y : Value} {Q : Value → Shared → Prop} (hl1 : l1 < I) (hl2 : l2 < I) (hI : I + 6 ≤ s.heap.objs.size) (st : ZipAt I l1 l2 xs ys i s.heap) (hx : xs[i]? = some x) (hy : ys[i]? = some y)
    (hQ : ∀ h', ZipOn I l1 l2 xs ys (i + 1) h' → IsPair h' s.heap.objs.size x y → h'.objs.size = s.heap.objs.size + 1 →
      (∀ c o, c ≠ I + 4 → c ≠ I + 3 → c ≠ I → c ≠ I + 1 → s.heap.get? c = some o → h'.get? c = some o) → Q (.ref s.heap.objs.size) { s with heap := h' }) :
    wpAny (model prog w) A (Builtin.SmallTypes.nextOf (.ref (I + 4))) Q E s := by
  have D : ZipApart (I + 4) (I + 2) (I + 3) I (I + 1) l1 l2 := PySem.W.ktu_apart _ _ _ hl1 hl2
  have hx' : xs.toArray[i]? = some x := by simpa using hx
  have hy' : ys.toArray[i]? = some y := by simpa using hy
  unfold Builtin.SmallTypes.nextOf
  rcases st with ⟨hz, b⟩ | ⟨⟨Z, o, b1, hZ6, hz, hZ⟩, b⟩
  · have hT : s.TypeIs (.ref (I + 4)) "zip" := ⟨_, hz, rfl⟩
    obtain ⟨ta, tb, hTO⟩ := b.to
    refine wpAny_bind (wpAny_callSpecial?_slot (name := Str.ofString "__next__") hT F.slot_zip_next
      (wpAny_call_entry F.slot_zip_next hT F.entry_zip_next (zip_next_item D hz b.ti hTO b.i1 b.i2 b.l1 b.l2 hx' hy' fun h' a1 a2 a3 a4 a5 a6 hk => wpAny_pure ?_) (F.args_zip_next_1 _)))
    exact hQ h' ⟨⟨_, _, _, hI, a1, a5⟩, hk _ _ D.TIz D.TITO D.TIi1 D.TIi2 b.ti, ⟨_, _, a2⟩, a3, a4, b.l1.at fun o e => hk _ o D.l1z D.l1TO D.l1i1 D.l1i2 e, b.l2.at fun o e => hk _ o D.l2z D.l2TO D.l2i1 D.l2i2 e⟩ a5 a6 hk
  · have hT : s.TypeIs (.ref (I + 4)) "zip" := ⟨_, hz, rfl⟩
    refine wpAny_bind (wpAny_callSpecial?_slot (name := Str.ofString "__next__") hT F.slot_zip_next
      (wpAny_call_entry F.slot_zip_next hT F.entry_zip_next (zip_next_later D hz hZ b.ti b.i1 b.i2 b.l1 b.l2 hx' hy' fun h' a1 a3 a4 a5 a6 hk => wpAny_pure ?_) (F.args_zip_next_1 _)))
    have nz : ∀ k : Nat, k < 6 → Z ≠ I + k := fun k hk => Nat.ne_of_gt (Nat.lt_of_lt_of_le (Nat.add_lt_add_left hk I) hZ6)
    obtain ⟨ta, tb, hTO⟩ := b.to
    exact hQ h' ⟨⟨Z, o, _, hZ6, a1, hk _ _ (nz 4 (by decide)) (nz 0 (by decide)) (nz 1 (by decide)) hZ⟩, hk _ _ D.TIz D.TIi1 D.TIi2 b.ti, ⟨_, _, hk _ _ D.TOz D.TOi1 D.TOi2 hTO⟩, a3, a4, b.l1.at fun o e => hk _ o D.l1z D.l1i1 D.l1i2 e, b.l2.at fun o e => hk _ o D.l2z D.l2i1 D.l2i2 e⟩ a5 a6
      fun c o c1 _ c3 c4 e => hk c o c1 c3 c4 e

theorem zip_out {I l1 l2 : Nat} {xs ys : List Value} {i : Nat} {Q : Value → Shared → Prop} (hh : A.handled = none) (hl1 : l1 < I) (hl2 : l2 < I) (st : ZipAt I l1 l2 xs ys i s.heap) (hx : xs[i]? = none)
    (hE : ∀ h' e, (∀ c o, c ≠ I + 4 → c ≠ I + 3 → c ≠ I → c ≠ I + 1 → s.heap.get? c = some o → h'.get? c = some o) → (∃ o, h'.get? e = some o ∧ o.cls = .type "StopIteration") → E (.ref e) { s with heap := h' }) :
    wpAny (model prog w) A (Builtin.SmallTypes.nextOf (.ref (I + 4))) Q E s := by
  have D : ZipApart (I + 4) (I + 2) (I + 3) I (I + 1) l1 l2 := PySem.W.ktu_apart _ _ _ hl1 hl2
  have hx' : xs.toArray[i]? = none := by simpa using hx
  unfold Builtin.SmallTypes.nextOf
  rcases st with ⟨hz, b⟩ | ⟨⟨Z, o, b1, hZ6, hz, hZ⟩, b⟩
  · have hT : s.TypeIs (.ref (I + 4)) "zip" := ⟨_, hz, rfl⟩
    obtain ⟨ta, tb, hTO⟩ := b.to
    exact wpAny_bind (wpAny_callSpecial?_slot (name := Str.ofString "__next__") hT F.slot_zip_next
      (wpAny_call_entry F.slot_zip_next hT F.entry_zip_next (zip_next_end hh D hz b.ti hTO b.i1 b.i2 b.l1 b.l2 (.inl hx') fun h' e hk he => hE h' e hk he) (F.args_zip_next_1 _)))
  · have hT : s.TypeIs (.ref (I + 4)) "zip" := ⟨_, hz, rfl⟩
    exact wpAny_bind (wpAny_callSpecial?_slot (name := Str.ofString "__next__") hT F.slot_zip_next
      (wpAny_call_entry F.slot_zip_next hT F.entry_zip_next (zip_next_done hh D hz hZ b.ti b.i1 b.l1 hx' fun h' e hk he => hE h' e (fun c o c1 _ c3 c4 x => hk c o c1 c3 c4 x) he) (F.args_zip_next_1 _)))

/-- enumerate over any source: one turn -/
theorem enum_next {e it : Addr} {i : Nat} {old : Value} {R : Value → Heap → Prop} {Q : Value → Shared → Prop} (he : IsEnum s.heap e it i old)
    (draw : ∀ Q' : Value → Shared → Prop, (∀ x h', R x h' → IsEnum h' e it i old → Q' x { s with heap := h' }) → wpAny (model prog w) A (Builtin.SmallTypes.nextOf (.ref it)) Q' E s)
    (hQ : ∀ x h₁ h' tk, R x h₁ → IsEnumOut h' e it ((i : Int) + 1) x h₁.objs.size → h'.get? h₁.objs.size = some { cls := .type "tuple", data := .seq #[.int i tk, x] } →
      (∀ b o, b ≠ e → h₁.get? b = some o → h'.get? b = some o) → Q (.ref h₁.objs.size) { s with heap := h', toks := tk + 1 }) :
    wpAny (model prog w) A (Builtin.«enumerate.__next__» ⟨[.ref e], []⟩) (fun fin s' => ∃ v, fin = .done (.ret v) ∧ Q v s') E s := by
  obtain ⟨hp, g, d, tk, os⟩ := s
  show wpAny _ _ (field (.ref e) 2 >>= _) _ _ _
  refine wpAny_bind (wpAny_field he rfl (x := .ref it) rfl ?_)
  refine wpAny_bind (draw _ fun x h₁ hR he₁ => ?_)
  show wpAny _ _ (field (.ref e) 3 >>= _) _ _ ⟨h₁, g, d, tk, os⟩
  refine wpAny_bind (wpAny_field he₁ rfl (x := rawInt i) rfl ?_)
  show wpAny _ _ (field (.ref e) 4 >>= _) _ _ ⟨h₁, g, d, tk, os⟩
  refine wpAny_bind (wpAny_field he₁ rfl (x := .none) rfl ?_)
  show wpAny _ _ (mkInt i >>= _) _ _ ⟨h₁, g, d, tk, os⟩
  refine wpAny_bind (wpAny_mkInt ?_)
  show wpAny _ _ (setField (.ref e) 3 (rawInt ((i : Int) + 1)) >>= _) _ _ ⟨h₁, g, d, tk + 1, os⟩
  refine wpAny_bind (wpAny_setField_rec he₁ (by simp) fun h₂ he₂ hs₂ => ?_)
  replace hs₂ : Heap.SameBut e h₁ h₂ := hs₂
  replace he₂ : IsEnum h₂ e it ((i : Int) + 1) old := he₂
  show wpAny _ _ (setField (.ref e) 4 .none >>= _) _ _ ⟨h₂, g, d, tk + 1, os⟩
  refine wpAny_bind (wpAny_setField_rec he₂ (by simp) fun h₃ he₃ hs₃ => ?_)
  replace hs₃ : Heap.SameBut e h₂ h₃ := hs₃
  replace he₃ : IsEnum h₃ e it ((i : Int) + 1) old := he₃
  show wpAny _ _ (newTuple [.int i tk, x] >>= _) _ _ ⟨h₃, g, d, tk + 1, os⟩
  refine wpAny_bind (wpAny_newTuple ?_)
  have he₄ : IsEnum (h₃.push { cls := .type "tuple", data := .seq #[.int i tk, x] }) e it ((i : Int) + 1) old := Heap.get?_push_of_some _ he₃
  generalize hh₄ : h₃.push { cls := .type "tuple", data := .seq #[.int i tk, x] } = h₄ at he₄
  have hsz : h₃.objs.size = h₁.objs.size := by rw [hs₃.1, hs₂.1]
  have hel : e < h₁.objs.size := Heap.lt_size he₁
  have ht₄ : h₄.get? h₁.objs.size = some { cls := .type "tuple", data := .seq #[.int i tk, x] } := by rw [← hh₄, ← hsz]; exact Heap.get?_push_size _ rfl
  have hk₄ : ∀ b o, b ≠ e → h₁.get? b = some o → h₄.get? b = some o := fun b o hbe hb => by
    rw [← hh₄]; exact Heap.get?_push_of_some _ (hs₃.extBut b o hbe (hs₂.extBut b o hbe hb))
  show wpAny _ _ (Builtin.SmallTypes.ownedTupleIsFree (.ref e) >>= _) _ _ ⟨h₄, g, d, tk + 1, os⟩
  rw [hsz]
  refine wpAny_bind ?_
  unfold Builtin.SmallTypes.ownedTupleIsFree
  refine wpAny_bind (wpAny_field he₄ rfl (x := .none) rfl (wpAny_pure ?_))
  simp only [if_true]
  refine wpAny_bind (wpAny_rule ?_)
  refine wpAny_bind (wpAny_field he₄ rfl (x := old) rfl ?_)
  refine wpAny_bind (wpAny_setField_rec he₄ (by simp) fun h₅ he₅ hs₅ => ?_)
  replace hs₅ : Heap.SameBut e h₄ h₅ := hs₅
  replace he₅ : IsEnum h₅ e it ((i : Int) + 1) x := he₅
  show wpAny _ _ (Builtin.SmallTypes.ownedTupleHandOut (.ref e) (.ref h₁.objs.size) >>= _) _ _ ⟨h₅, g, d, tk + 1, os⟩
  refine wpAny_bind ?_
  unfold Builtin.SmallTypes.ownedTupleHandOut
  refine wpAny_bind (wpAny_setField_rec he₅ (by simp) fun h₆ he₆ hs₆ => ?_)
  replace hs₆ : Heap.SameBut e h₅ h₆ := hs₆
  replace he₆ : IsEnumOut h₆ e it ((i : Int) + 1) x h₁.objs.size := he₆
  refine wpAny_setField_rec he₆ (by simp) fun h₇ he₇ hs₇ => ?_
  replace hs₇ : Heap.SameBut e h₆ h₇ := hs₇
  replace he₇ : IsEnumOut h₇ e it ((i : Int) + 1) x h₁.objs.size := he₇
  have up : ∀ b o, b ≠ e → h₄.get? b = some o → h₇.get? b = some o := fun b o hbe hb => hs₇.extBut b o hbe (hs₆.extBut b o hbe (hs₅.extBut b o hbe hb))
  exact wpAny_bind (wpAny_letGo (wpAny_pure ⟨_, rfl, hQ x h₁ h₇ tk hR he₇ (up _ _ (Nat.ne_of_gt hel) ht₄) fun b o hbe hb => up b o hbe (hk₄ b o hbe hb)⟩))
end
end Mine.Ez
end
section
open PySem PySem.W PyProof.Rows
set_option maxRecDepth 100000
set_option maxHeartbeats 8000000
namespace Mine.Ez
open PySem.Calls PyProof.V PySem.Spec

/-- how a turn of the loop ends -/
def EzPost (h₀ : Heap) (L : Addr) (its news : List (Addr × Obj)) (J : (Str → Option Value) → Prop) (s : Shared) (Q : Flow → Shared → Prop) (f : Flow) (s₃ : Shared) : Prop :=
  match f with
  | .ret v => Q (.ret v) s₃
  | .brk => Q .next s₃
  | _ => ∃ h' tk m', s₃ = { s with heap := h', toks := tk } ∧ Fr h₀ L h' m' ∧ News h₀ L h' (its ++ news) ∧ J m'
/-- the loop over an enumerate of a zip of two lists -/
def EzAt (prog : Program) (w : World) (A : Around) (h₀ : Heap) (env : Env) (target : Expr) (body : List Stmt) (Q : Flow → Shared → Prop) (E : Value → Shared → Prop) (it : Value) (s : Shared) : Prop :=
  ∃ (I l1 l2 : Nat) (xs ys : List Value) (n1 n2 : Nat) (news : List (Addr × Obj)) (m : Str → Option Value) (J : Nat → (Str → Option Value) → Prop),
    it = .ref (I + 5) ∧ l1 < I ∧ l2 < I ∧ env.locals < I ∧ (∀ p ∈ news, p.1 < I) ∧ (∀ b : Nat, I ≤ b → h₀.get? b = none) ∧ xs.length = ys.length ∧
    (l1, ({ cls := .type "list", data := .seq xs.toArray n1 } : Obj)) ∈ news ∧ (l2, ({ cls := .type "list", data := .seq ys.toArray n2 } : Obj)) ∈ news ∧
    IsEnum s.heap (I + 5) (I + 4) 0 .none ∧ ZipAt I l1 l2 xs ys 0 s.heap ∧ I + 6 ≤ s.heap.objs.size ∧ Fr h₀ env.locals s.heap m ∧ News h₀ env.locals s.heap news ∧ J 0 m ∧
    (∀ i x y M h tk its T Z t, xs[i]? = some x → ys[i]? = some y → J i M → Fr h₀ env.locals h M → (∀ p ∈ its, I ≤ p.1) →
      News h₀ env.locals h ((T, { cls := .type "tuple", data := .seq #[.int ((i : Nat) : Int) t, .ref Z] }) :: (Z, { cls := .type "tuple", data := .seq #[x, y] }) :: (its ++ news)) →
      wpAny (model prog w) A (assign target env (.ref T)) (fun _ s₂ => wpAny (model prog w) A (execs body env) (EzPost h₀ env.locals its news (J (i + 1)) { s with heap := h, toks := tk } Q) E s₂) E { s with heap := h, toks := tk }) ∧
    ∀ h' tk m', Fr h₀ env.locals h' m' → News h₀ env.locals h' news → J xs.length m' → Q .next { s with heap := h', toks := tk }

section
variable {prog : Program} {w : World} {A : Around} {E : Value → Shared → Prop} {s : Shared} {env : Env} {h₀ : Heap} {elts : List Expr} {k : Nat} {tpos : Pos} {body : List Stmt} {Q : Flow → Shared → Prop}

theorem ez_next {I l1 l2 : Nat} {xs ys : List Value} {i : Nat} {x y old : Value} {Q : Option Value → Shared → Prop} (hl1 : l1 < I) (hl2 : l2 < I) (hI : I + 6 ≤ s.heap.objs.size) (he : IsEnum s.heap (I + 5) (I + 4) i old) (st : ZipAt I l1 l2 xs ys i s.heap) (hx : xs[i]? = some x) (hy : ys[i]? = some y)
    (hQ : ∀ h' Z T tk, IsEnumOut h' (I + 5) (I + 4) ((i : Int) + 1) (.ref Z) T → h'.get? T = some { cls := .type "tuple", data := .seq #[.int i tk, .ref Z] } → ZipOn I l1 l2 xs ys (i + 1) h' → IsPair h' Z x y → I + 6 ≤ Z → I + 6 ≤ T → I + 6 ≤ h'.objs.size →
      (∀ c o, c < I → s.heap.get? c = some o → h'.get? c = some o) → Q (some (.ref T)) { s with heap := h', toks := tk + 1 }) :
    wpAny (model prog w) A (pyNext (.ref (I + 5))) Q E s := by
  have hT : s.TypeIs (.ref (I + 5)) "enumerate" := ⟨_, he, rfl⟩
  unfold pyNext
  refine wpAny_bind (wpAny_attempt (wpAny_callSpecial?_slot (name := Str.ofString "__next__") hT F.slot_enumerate_next
    (wpAny_call_entry F.slot_enumerate_next hT F.entry_enumerate_next (enum_next (R := fun v h => v = .ref s.heap.objs.size ∧ ZipOn I l1 l2 xs ys (i + 1) h ∧ IsPair h s.heap.objs.size x y ∧ h.objs.size = s.heap.objs.size + 1 ∧ ∀ c o, c < I → s.heap.get? c = some o → h.get? c = some o) he ?_ ?_) (F.args_enumerate_next_1 _))))
  · intro Q' hQ'
    refine zip_draw hl1 hl2 hI st hx hy fun h' a1 a2 a3 hk => hQ' _ _ ⟨rfl, a1, a2, a3, fun c o hc e => hk c o ?_ ?_ ?_ ?_ e⟩ (hk _ _ ?_ ?_ ?_ ?_ he)
    · exact Nat.ne_of_lt (Nat.lt_of_lt_of_le hc (Nat.le_add_right _ _))
    · exact Nat.ne_of_lt (Nat.lt_of_lt_of_le hc (Nat.le_add_right _ _))
    · exact Nat.ne_of_lt hc
    · exact Nat.ne_of_lt (Nat.lt_of_lt_of_le hc (Nat.le_add_right _ _))
    all_goals (refine neN ?_; omega)
  · rintro x₁ h₁ h' tk ⟨rfl, ⟨⟨Z, o, b, hZ6, hz, hZ⟩, B⟩, hP, hsz, hk⟩ hO hT' hk'
    have lt5 : ∀ c : Nat, c < I → c ≠ I + 5 := fun c hc => Nat.ne_of_lt (Nat.lt_of_lt_of_le hc (Nat.le_add_right _ _))
    have gt5 : ∀ c : Nat, I + 6 ≤ c → c ≠ I + 5 := fun c hc => Nat.ne_of_gt hc
    have at5 : ∀ j : Nat, j < 5 → I + j ≠ I + 5 := fun j hj => Nat.ne_of_lt (Nat.add_lt_add_left hj I)
    have hsz6 : I + 6 ≤ h₁.objs.size := by rw [hsz]; exact Nat.le_succ_of_le hI
    obtain ⟨ta, tb, hto⟩ := B.to
    refine wpAny_pure (hQ h' _ _ tk hO hT' ⟨⟨Z, o, b, hZ6, hk' _ _ (at5 4 (by decide)) hz, hk' _ _ (gt5 _ hZ6) hZ⟩, hk' _ _ (at5 2 (by decide)) B.ti, ⟨ta, tb, hk' _ _ (at5 3 (by decide)) hto⟩, B.i1.at fun o e => hk' _ o (at5 0 (by decide)) e, B.i2.at fun o e => hk' _ o (at5 1 (by decide)) e,
      B.l1.at fun o e => hk' _ o (lt5 _ hl1) e, B.l2.at fun o e => hk' _ o (lt5 _ hl2) e⟩ (hk' _ _ (gt5 _ hI) hP) hI hsz6 ?_ fun c o hc e => hk' c o (lt5 c hc) (hk c o hc e))
    exact Nat.le_of_lt (Nat.lt_of_le_of_lt hsz6 (Heap.lt_size hT'))

theorem ez_end {I l1 l2 : Nat} {xs ys : List Value} {i : Nat} {old : Value} {Q : Option Value → Shared → Prop} (hh : A.handled = none) (hl1 : l1 < I) (hl2 : l2 < I) (he : IsEnum s.heap (I + 5) (I + 4) i old) (st : ZipAt I l1 l2 xs ys i s.heap) (hx : xs[i]? = none)
    (hQ : ∀ h', (∀ c o, c < I → s.heap.get? c = some o → h'.get? c = some o) → Q none { s with heap := h' }) : wpAny (model prog w) A (pyNext (.ref (I + 5))) Q E s := by
  have hT : s.TypeIs (.ref (I + 5)) "enumerate" := ⟨_, he, rfl⟩
  unfold pyNext
  refine wpAny_bind (wpAny_attempt (wpAny_callSpecial?_slot (name := Str.ofString "__next__") hT F.slot_enumerate_next
    (wpAny_call_entry F.slot_enumerate_next hT F.entry_enumerate_next ?_ (F.args_enumerate_next_1 _))))
  show wpAny _ _ (field (.ref (I + 5)) 2 >>= _) _ _ _
  refine wpAny_bind (wpAny_field he rfl (x := .ref (I + 4)) rfl ?_)
  refine wpAny_bind (zip_out hh hl1 hl2 st hx fun h' x hk hx' => ?_)
  obtain ⟨o, ho, hc⟩ := hx'
  refine wpAny_bind (wpAny_isInstance (T := "StopIteration") (b := true) ⟨o, ho, hc⟩ isSubtype_stop ?_)
  refine wpAny_pure (hQ _ fun c o hc e => hk c o ?_ ?_ ?_ ?_ e)
  · exact Nat.ne_of_lt (Nat.lt_of_lt_of_le hc (Nat.le_add_right _ _))
  · exact Nat.ne_of_lt (Nat.lt_of_lt_of_le hc (Nat.le_add_right _ _))
  · exact Nat.ne_of_lt hc
  · exact Nat.ne_of_lt (Nat.lt_of_lt_of_le hc (Nat.le_add_right _ _))

theorem For_ez {iter : Expr} {pos : Pos} {m : Str → Option Value} (_F : Fr h₀ env.locals s.heap m) (hh : A.handled = none)
    (h : wpAny (model prog w) A (eval iter env) (fun xv s₁ => wpAny (model prog w) A (pyIter xv) (fun it s₂ => EzAt prog w A h₀ env (.Tuple elts k tpos) body Q E it s₂) E s₁) E s)
    (hs : ∀ x, foldedSetIterable iter env x = pure x := by intro _; rfl)
    (hE : PassesOwn (model prog w) A env E := by passes_own) :
    wpAny (model prog w) A (exec (.For (.Tuple elts k tpos) iter body [] pos) env) Q E s := by
  refine wpAny_For (wpAny_mono h (fun xv s₁ h₁ => wpAny_mono h₁ (fun it s₂ h₂ => ?_) fun _ _ e => e) fun _ _ e => e) hs
  obtain ⟨I, l1, l2, xs, ys, n1, n2, news, m, J, rfl, hl1, hl2, hL, hnews, hnew, hlen, hm1, hm2, he0, hz0, hsz0, F0, N0, hJ0, step, done⟩ := h₂
  refine codeAny_forLoop_any
    (fun k' s' => ∃ h' tk m' i old, s' = { s₂ with heap := h', toks := tk } ∧ IsEnum h' (I + 5) (I + 4) ((i : Nat) : Int) old ∧ ZipAt I l1 l2 xs ys i h' ∧ I + 6 ≤ h'.objs.size ∧ Fr h₀ env.locals h' m' ∧ News h₀ env.locals h' news ∧ J i m' ∧ i ≤ xs.length ∧ k' = xs.length + 1 - i) ?_ (xs.length + 1)
    ⟨s₂.heap, s₂.toks, m, 0, .none, rfl, he0, hz0, hsz0, F0, N0, hJ0, Nat.zero_le _, rfl⟩
  rintro k' s' ⟨h', tk, m', i, old, rfl, he, hz, hsz, F', N', hJ, hi, rfl⟩
  have next : ∀ h₁ : Heap, (∀ c o, c < I → h'.get? c = some o → h₁.get? c = some o) → Fr h₀ env.locals h₁ m' ∧ News h₀ env.locals h₁ news := fun h₁ hk₁ =>
    ⟨⟨F'.ns.at' fun o e => hk₁ _ o hL e, fun b o e => hk₁ b o (Nat.lt_of_not_le fun hb => by rw [hnew b hb] at e; cases e) (F'.keep b o e), F'.above⟩, fun p hp => ⟨hk₁ _ _ (hnews p hp) (N' p hp).1, (N' p hp).2⟩⟩
  cases hx : xs[i]? with
  | none =>
    have hin : i = xs.length := Nat.le_antisymm hi (by simpa using hx)
    refine ez_end hh hl1 hl2 he hz hx fun h₁ hk₁ => wpAny_execs_nil ?_
    obtain ⟨F₁, N₁⟩ := next h₁ hk₁
    exact done h₁ tk m' F₁ N₁ (hin ▸ hJ)
  | some x =>
    have hlt : i < xs.length := by
      rcases Nat.lt_or_ge i xs.length with h | h
      · exact h
      · rw [List.getElem?_eq_none h] at hx; cases hx
    have hy : ys[i]? = some (ys[i]'(hlen ▸ hlt)) := List.getElem?_eq_getElem _
    refine ez_next hl1 hl2 hsz he hz hx hy fun h₁ Z T tk₁ hO hT hon hP hZ6 hT6 hsz₁ hk₁ => ?_
    have aT : T ≠ I + 5 := Nat.ne_of_gt hT6
    have aZ : Z ≠ I + 5 := Nat.ne_of_gt hZ6
    refine wpAny_letOwnedTupleGo_enum hO fun h₂ he₂ hs₂ => ?_
    replace hs₂ : Heap.SameBut (I + 5) h₁ h₂ := hs₂
    obtain ⟨F₂, N₂⟩ := next h₂ fun c o hc e => hs₂.extBut _ _ (Nat.ne_of_lt (Nat.lt_of_lt_of_le hc (Nat.le_add_right _ _))) (hk₁ c o hc e)
    have at5 : ∀ j : Nat, j < 5 → I + j ≠ I + 5 := fun j hj => Nat.ne_of_lt (Nat.add_lt_add_left hj I)
    obtain ⟨⟨Z0, oZ, b0, hZ0, hzip, hZo⟩, B⟩ := hon
    obtain ⟨ta, tb, hto⟩ := B.to
    obtain ⟨o1, ho1, r1⟩ := B.i1
    obtain ⟨o2, ho2, r2⟩ := B.i2
    have g1 := hs₂.extBut _ _ (at5 0 (by decide)) ho1
    have g2 := hs₂.extBut _ _ (at5 1 (by decide)) ho2
    have g6 := hs₂.extBut _ _ (show Z0 ≠ I + 5 from Nat.ne_of_gt hZ0) hZo
    have gT := hs₂.extBut _ _ aT hT
    have gZ := hs₂.extBut _ _ aZ hP
    obtain ⟨oe, ge, ue⟩ : ∃ oe, h₂.get? (I + 5) = some oe ∧ ∀ h : Heap, h.get? (I + 5) = some oe → IsEnum h (I + 5) (I + 4) ((i + 1 : Nat) : Int) (.ref Z) := ⟨_, he₂, fun h e => e⟩
    obtain ⟨oz, gz, uz⟩ : ∃ oz, h₂.get? (I + 4) = some oz ∧ ∀ h : Heap, h.get? (I + 4) = some oz → ZipIs h (I + 4) (I + 2) (I + 3) (rawInt Z0) b0 := ⟨_, hs₂.extBut _ _ (at5 4 (by decide)) hzip, fun h e => e⟩
    obtain ⟨ot, gt, ut⟩ : ∃ ot, h₂.get? (I + 2) = some ot ∧ ∀ h : Heap, h.get? (I + 2) = some ot → IsPair h (I + 2) (.ref I) (.ref (I + 1)) := ⟨_, hs₂.extBut _ _ (at5 2 (by decide)) B.ti, fun h e => e⟩
    obtain ⟨oo, go, uo⟩ : ∃ oo, h₂.get? (I + 3) = some oo ∧ ∀ h : Heap, h.get? (I + 3) = some oo → IsPair h (I + 3) ta tb := ⟨_, hs₂.extBut _ _ (at5 3 (by decide)) hto, fun h e => e⟩
    have fresh : ∀ (b : Nat) (o : Obj), I ≤ b → h₂.get? b = some o → h₂.get? b = some o ∧ b ≠ env.locals ∧ h₀.get? b = none := fun b o hb e => ⟨e, Nat.ne_of_gt (Nat.lt_of_lt_of_le hL hb), hnew b hb⟩
    have sub6 : ∀ b : Nat, I + 6 ≤ b → I ≤ b := fun b hb => Nat.le_trans (Nat.le_add_right _ _) hb
    have addI : ∀ j : Nat, I ≤ I + j := fun j => Nat.le_add_right _ _
    let its : List (Addr × Obj) := [(I + 5, oe), (I + 4, oz), (I + 2, ot), (I + 3, oo), (I, o1), (I + 1, o2), (Z0, oZ)]
    have hits : ∀ p ∈ its, I ≤ p.1 ∧ h₂.get? p.1 = some p.2 := by
      intro p hp
      simp only [its, List.mem_cons, List.not_mem_nil, or_false] at hp
      rcases hp with rfl | rfl | rfl | rfl | rfl | rfl | rfl
      · exact ⟨addI 5, ge⟩
      · exact ⟨addI 4, gz⟩
      · exact ⟨addI 2, gt⟩
      · exact ⟨addI 3, go⟩
      · exact ⟨addI 0, g1⟩
      · exact ⟨addI 1, g2⟩
      · exact ⟨sub6 _ hZ0, g6⟩
    have N₃ : News h₀ env.locals h₂ ((T, { cls := .type "tuple", data := .seq #[.int ((i : Nat) : Int) tk₁, .ref Z] }) :: (Z, { cls := .type "tuple", data := .seq #[x, ys[i]'(hlen ▸ hlt)] }) :: (its ++ news)) := by
      intro p hp
      rcases List.mem_cons.mp hp with rfl | hp
      · exact fresh _ _ (sub6 _ hT6) gT
      rcases List.mem_cons.mp hp with rfl | hp
      · exact fresh _ _ (sub6 _ hZ6) gZ
      rcases List.mem_append.mp hp with hp | hp
      · exact fresh _ _ (hits p hp).1 (hits p hp).2
      · exact N₂ p hp
    have S := step i x _ m' h₂ (tk₁ + 1) its T Z tk₁ hx hy hJ F₂ (fun p hp => (hits p hp).1) N₃
    refine wpAny_mono (wpAny_passesOwn hE S) (fun _ s₃ h₃ => wpAny_mono (wpAny_passesOwn hE h₃) (fun f s₄ h₄ => ?_) fun _ _ e => e) fun _ _ e => e
    have fin : (∃ h' tk m', s₄ = { s₂ with heap := h', toks := tk } ∧ Fr h₀ env.locals h' m' ∧ News h₀ env.locals h' (its ++ news) ∧ J (i + 1) m') → ∃ mm, mm < xs.length + 1 - i ∧ ∃ h' tk m' i old, s₄ = { s₂ with heap := h', toks := tk } ∧ IsEnum h' (I + 5) (I + 4) ((i : Nat) : Int) old ∧ ZipAt I l1 l2 xs ys i h' ∧ I + 6 ≤ h'.objs.size ∧ Fr h₀ env.locals h' m' ∧ News h₀ env.locals h' news ∧ J i m' ∧ i ≤ xs.length ∧ mm = xs.length + 1 - i := by
      rintro ⟨h₅, tk₅, m₅, rfl, F₅, N₅, hJ₅⟩
      have G : ∀ p ∈ its, h₅.get? p.1 = some p.2 := fun p hp => (N₅ p (List.mem_append_left _ hp)).1
      have q5 : h₅.get? (I + 5) = some oe := G (I + 5, oe) (by simp [its])
      refine ⟨xs.length + 1 - (i + 1), by omega, h₅, tk₅, m₅, i + 1, .ref Z, rfl, ue _ q5, .inr ⟨⟨Z0, oZ, b0, hZ0, uz _ (G (I + 4, oz) (by simp [its])), G (Z0, oZ) (by simp [its])⟩, ut _ (G (I + 2, ot) (by simp [its])), ⟨ta, tb, uo _ (G (I + 3, oo) (by simp [its]))⟩, ⟨o1, G (I, o1) (by simp [its]), r1⟩, ⟨o2, G (I + 1, o2) (by simp [its]), r2⟩, ⟨_, (N₅ _ (List.mem_append_right _ hm1)).1, rfl, n1, rfl⟩, ⟨_, (N₅ _ (List.mem_append_right _ hm2)).1, rfl, n2, rfl⟩⟩, Heap.lt_size q5, F₅, N₅.right, hJ₅, hlt, rfl⟩
    cases f with
    | ret v => exact h₄
    | brk => exact h₄
    | cont => exact fin h₄
    | next => exact fin h₄
end
end Mine.Ez
end
section
set_option maxRecDepth 100000
set_option maxHeartbeats 8000000
namespace Mine.Dp
open PySem
open Sem (wp)

theorem list_no_keys : typeLookup (.type "list") "keys" = pure none := am_miss_of_fast (by decide +kernel)
section
variable {prog : Program} {w : World} {A : Around} {E : Value → Shared → Prop} {s : Shared}
theorem list_keys {a : Addr} {xs : Array Value} {k : Nat} {Q : Option Value → Shared → Prop} (hx : s.heap.get? a = some { cls := .type "list", data := .seq xs k }) (hA : A.handled = none)
    (h : ∀ h' tk, (∀ b o, s.heap.get? b = some o → h'.get? b = some o) → Q none { s with heap := h', toks := tk }) : wpAny (model prog w) A (getAttr? (.ref a) "keys") Q E s := by
  obtain ⟨hp, g, d, tk, os⟩ := s
  have hT : ∀ tk', (⟨hp, g, d, tk', os⟩ : Shared).TypeIs (.ref a) "list" := fun _ => ⟨_, hx, rfl⟩
  have f1 := sub_AttributeError
  have f3 := F.slot_list_getattribute.lookup
  have f4 := F.slot_list_getattribute.bind (.ref a)
  have f5 := am_list_getattr_none
  have f6 := list_no_keys
  unfold getAttr? getAttrBy? getAttrBy
  repeat (any_goals (first | assumption | exact hT _ | ((with_reducible show wpAny _ _ (call (Value.builtin "list.__getattribute__") _ _) _ _ _); refine call_meets F.slot_list_getattribute (hT _) am_entry_list_getattribute (F.args_list_getattribute_2 _ _) (meets_getattribute_miss_list a xs k _ _ _ f6 (by decide) (by size_fits)) ⟨hx, hA, fun h' tk' e hx' => ?_⟩) | wp_step))
  obtain ⟨t', u', he⟩ := hx'.there
  show wpAny _ _ (getattributeRaised _ _ _ _ _ _ _) _ _ _
  unfold getattributeRaised
  repeat (any_goals (first | assumption | wp_step))
  all_goals (first | exact h _ _ hx'.keeps | trace_state)
end
theorem entry_loop : entryFor table "dict.update.loop" = some Builtin.«dict.update.loop» := entryFor_of_tree (by kernel_rfl)
theorem plain_loop : plainId "dict.update.loop" = true := by decide +kernel

section
variable {prog : Program} {w : World} {K : Type} [DecidableEq K] {knd : KeyKind prog w K} {A : Around} {s : Shared} {R : Result → Shared → Prop}
/-- a list of pairs whose first members are keys -/
inductive KPairs (knd : KeyKind prog w K) (news : List (Addr × Obj)) : List Value → List (K × Value) → Prop
  | nil : KPairs knd news [] []
  | cons {a : Addr} {k : K} {key v : Value} {n : Nat} {vs : List Value} {kvs : List (K × Value)} : (a, ({ cls := .type "tuple", data := .seq #[key, v] n } : Obj)) ∈ news → knd.is k key = true → KPairs knd news vs kvs → KPairs knd news (.ref a :: vs) ((k, v) :: kvs)

theorem merged_cons (acc : List (K × Value)) (k : K) (v : Value) (r : List (K × Value)) : merged acc ((k, v) :: r) = merged (stored acc k v) r := rfl

theorem update_loop {l I d : Addr} {n : Nat} {news : List (Addr × Obj)} {vs : List Value} (hh : A.handled = none) (hl : (l, ({ cls := .type "list", data := .seq vs.toArray n } : Obj)) ∈ news) (hd : ∀ p ∈ news, p.1 < d) (hI : ∀ p ∈ news, p.1 < I) (hdI : d ≠ I) :
    ∀ (vr : List Value) (kr : List (K × Value)) (i : Nat) (j : Int) (s : Shared) (acc : List (K × Value)), vs.drop i = vr → KPairs knd news vr kr → s.heap.DictOf knd d acc → s.heap.IsListIter I l i → (∀ p ∈ news, s.heap.get? p.1 = some p.2) → acc.length + kr.length ≤ 100000 →
    (∀ h' tk, h'.DictOf knd d (merged acc kr) → (∀ b o, b ≠ d → b ≠ I → s.heap.get? b = some o → h'.get? b = some o) → R (.ok (.ret .none)) { s with heap := h', toks := tk }) →
    codeAny (model prog w) A (.builtin "dict.update.loop" ⟨[.ref d, .ref I, .int j 0, .none], []⟩) R s := by
  intro vr
  induction vr with
  | nil =>
    intro kr i j s acc hv hk hD hit hn hsz hR
    cases hk
    have hx : vs.toArray[i]? = none := by
      rw [List.getElem?_toArray]
      exact List.getElem?_eq_none (by simpa using hv)
    refine codeAny_builtin entry_loop ?_
    rw [Around.under_plainId plain_loop _]
    show wpAny _ A.in1 (pyNext (.ref I) >>= _) _ _ s
    refine wpAny_bind (wpAny_pyNext_list_end hh hit ⟨_, hn _ hl, rfl, n, rfl⟩ hx fun h' hs' => ?_)
    show wpAny _ A.in1 (Builtin.Dict.addKeywords d [] >>= _) _ _ _
    exact wpAny_bind (wpAny_pure (wpAny_pure (hR h' s.toks (hD.extBut hs' hdI) fun b o _ hb e => hs' b o hb e)))
  | cons v vr ih =>
    intro kr i j s acc hv hk hD hit hn hsz hR
    cases hk with
    | @cons a k key v₁ na _ kvs hm hkey hk' =>
    have hx : vs.toArray[i]? = some (.ref a) := by
      rw [List.getElem?_toArray, ← Nat.add_zero i, ← List.getElem?_drop, hv]; rfl
    have hv' : vs.drop (i + 1) = vr := by rw [← List.drop_drop, hv]; rfl
    have ne : ∀ {p : Addr × Obj} {x : Addr}, p.1 < x → p.1 ≠ x := fun h => Nat.ne_of_lt h
    refine codeAny_builtin entry_loop ?_
    rw [Around.under_plainId plain_loop _]
    show wpAny _ A.in1 (pyNext (.ref I) >>= _) _ _ s
    refine wpAny_bind (wpAny_pyNext_list_item hit ⟨_, hn _ hl, rfl, n, rfl⟩ hx fun h₁ hit₁ hs₁ => ?_)
    have hn₁ : ∀ p ∈ news, h₁.get? p.1 = some p.2 := fun p hp => hs₁.extBut _ _ (ne (hI p hp)) (hn p hp)
    have hD₁ : h₁.DictOf knd d acc := hD.extBut hs₁.extBut hdI
    refine wpAny_bind (wpAny_holding (wpAny_bind (wpAny_tryCatch ?_)))
    unfold Builtin.Dict.pairItems
    refine wpAny_bind (wpAny_typeOf (T := "tuple") ⟨_, hn₁ _ hm, rfl⟩ ?_)
    rw [if_pos (by decide)]
    refine wpAny_bind (wpAny_seqItems (hn₁ _ hm) rfl (wpAny_pure ?_))
    show wpAny _ A.in1 (holding [key, v₁] (dictSet d key v₁)) _ _ _
    have hacc : acc.length ≤ sizeLine := Nat.le_trans (Nat.le_trans (Nat.le_add_right _ _) hsz) (by decide)
    refine wpAny_holding (wpAny_dictSet_pairs (hsz := hacc) hkey hD₁ fun h₂ hD₂ hs₂ => ?_)
    have hst := stored_length_le acc k v₁
    rw [List.length_cons] at hsz
    refine wpAny_pure ⟨plainId_quiet plain_loop _, ih kvs (i + 1) (j + 1) _ (stored acc k v₁) hv' hk' hD₂ (hit₁.extBut hs₂.extBut (Ne.symm hdI)) (fun p hp => hs₂.extBut _ _ (ne (hd p hp)) (hn₁ p hp)) (by omega) fun h' tk hD' hk₃ => ?_⟩
    exact hR h' tk hD' fun b o hbd hbI e => hk₃ b o hbd hbI (hs₂.extBut b o hbd (hs₁.extBut b o hbI e))

theorem call_dict_pairs {E : Value → Shared → Prop} {l : Addr} {n : Nat} {news : List (Addr × Obj)} {vs : List Value} {kvs : List (K × Value)} {Q : Value → Shared → Prop} (hh : A.handled = none) (hl : (l, ({ cls := .type "list", data := .seq vs.toArray n } : Obj)) ∈ news) (hk : KPairs knd news vs kvs)
    (hn : ∀ p ∈ news, s.heap.get? p.1 = some p.2) (hsz : kvs.length ≤ 100000)
    (h : ∀ h' tk, h'.DictOf knd s.heap.objs.size (merged [] kvs) → (∀ b o, s.heap.get? b = some o → h'.get? b = some o) → Q (.ref s.heap.objs.size) { s with heap := h', toks := tk }) :
    wpAny (model prog w) A (call (.type "dict") [.ref l]) Q E s := by
  refine callType_codes (Q₁ := fun obj s₁ => obj = .ref s.heap.objs.size ∧ s₁ = { s with heap := s.heap.push { cls := .type "dict", data := .dict #[] } }) F.kt_called_dict (F.kt_typeCall_dict_1 _) F.entry_dict_init (kt_code_dict_new _ ⟨rfl, rfl⟩) ?_
  rintro obj s₁ ⟨rfl, rfl⟩
  have hnew : (s.heap.push { cls := .type "dict", data := .dict #[] }).DictOf knd s.heap.objs.size [] := Heap.DictOf.new s.heap
  have hlt : ∀ p ∈ news, p.1 < s.heap.objs.size := fun p hp => Heap.lt_size (hn p hp)
  have hn₁ : ∀ p ∈ news, (s.heap.push { cls := .type "dict", data := .dict #[] }).get? p.1 = some p.2 := fun p hp => Heap.get?_push_of_some _ (hn p hp)
  refine ⟨hnew.typeIs, F.args_dict_init_2 _ _, ?_⟩
  unfold Builtin.«dict.__init__»
  refine wpAny_bind ?_
  unfold Builtin.Dict.selfAndRest
  refine wpAny_bind (wpAny_notOrdered_dict hnew.typeIs ?_)
  show wpAny _ _ (pure (s.heap.objs.size, [Value.ref l])) _ _ _
  refine wpAny_pure ?_
  show wpAny _ _ (Builtin.Dict.updateFrom "dict.__init__" s.heap.objs.size (.ref l) [] .none) _ _ _
  unfold Builtin.Dict.updateFrom
  refine wpAny_bind (wpAny_typeOf (T := "list") ⟨_, hn₁ _ hl, rfl⟩ ?_)
  rw [if_pos (by decide)]
  refine wpAny_bind (list_keys (hn₁ _ hl) hh fun h₂ tk₂ hk₂ => ?_)
  simp only [Option.isNone_none, if_true]
  refine wpAny_bind (wpAny_rule ?_)
  refine wpAny_bind (wpAny_pyIter_list (items := vs.toArray) ⟨_, hk₂ _ _ (hn₁ _ hl), rfl, n, rfl⟩ ?_)
  have hsz₂ : s.heap.objs.size < h₂.objs.size := by
    obtain ⟨_, _, _, hg, _⟩ := hnew
    exact Heap.lt_size (hk₂ _ _ hg)
  have hd : (h₂.push { cls := .type "list_iterator", data := .fields #[.ref l, .int 0 0] }).DictOf knd s.heap.objs.size [] := (hnew.keep hk₂).push _
  refine wpAny_bind (wpAny_pure (wpAny_pure ⟨plainId_quiet plain_loop _, ?_⟩))
  refine update_loop (A := A.in1) (I := h₂.objs.size) (n := n) hh hl hlt (fun p hp => Nat.lt_trans (hlt p hp) hsz₂) (Nat.ne_of_lt hsz₂) vs kvs 0 0 _ [] rfl hk hd ⟨_, Heap.get?_push_size _ rfl, rfl, rfl⟩ (fun p hp => Heap.get?_push_of_some _ (hk₂ _ _ (hn₁ p hp))) (by simpa using hsz) fun h' tk hD hkeep => ?_
  exact ⟨rfl, h h' tk hD fun b o e => hkeep b o (Nat.ne_of_lt (Heap.lt_size e)) (Nat.ne_of_lt (Nat.lt_trans (Heap.lt_size e) hsz₂)) (Heap.get?_push_of_some _ (hk₂ _ _ (Heap.get?_push_of_some _ e)))⟩
end
end Mine.Dp
end
section
open PySem PySem.W PyProof.Rows
set_option maxRecDepth 100000
set_option maxHeartbeats 8000000
namespace Mine
open PySem.Calls PyProof.V PySem.Spec

def storedS (acc : List (Str × Str)) (k y : Str) : List (Str × Str) :=
  if acc.any (fun p => decide (p.1 = k)) then acc.map (fun p => if p.1 = k then (p.1, y) else p) else acc ++ [(k, y)]
def assocS : List (Str × Str) → Str → Option Str
  | [], _ => none
  | p :: r, x => if p.1 = x then some p.2 else assocS r x
def mergedS (acc l : List (Str × Str)) : List (Str × Str) := l.foldl (fun a p => storedS a p.1 p.2) acc
def lookS : List (Str × Str) → Str → Option Str
  | [], _ => none
  | p :: r, x => match lookS r x with
    | some y => some y
    | none => if p.1 = x then some p.2 else none

theorem assoc_map {acc : List (Str × Str)} {k y x : Str} : assocS (acc.map (fun p => if p.1 = k then (p.1, y) else p)) x = if k = x then (if acc.any (fun p => decide (p.1 = k)) then some y else none) else assocS acc x := by
  induction acc with
  | nil => simp [assocS]
  | cons p r ih =>
    rw [List.map_cons, assocS, ih, List.any_cons]
    by_cases hp : p.1 = k
    · rw [if_pos hp, decide_eq_true hp]
      by_cases hx : k = x
      · rw [if_pos (hp.trans hx), if_pos hx, Bool.true_or, if_pos rfl]
      · rw [if_neg (fun e => hx (hp.symm.trans e)), if_neg hx, if_neg hx, assocS, if_neg (fun e => hx (hp.symm.trans e))]
    · rw [if_neg hp, decide_eq_false hp, Bool.false_or]
      by_cases hx : k = x
      · rw [if_neg (fun e => hp (e.trans hx.symm))]
        rw [if_pos hx, if_pos hx]
      · rw [if_neg hx, if_neg hx, assocS]
theorem assoc_app {acc : List (Str × Str)} {k y x : Str} : assocS (acc ++ [(k, y)]) x = match assocS acc x with | some z => some z | none => if k = x then some y else none := by
  induction acc with
  | nil => rfl
  | cons p r ih =>
    rw [List.cons_append, assocS, ih, assocS]
    by_cases hp : p.1 = x
    · rw [if_pos hp, if_pos hp]
    · rw [if_neg hp, if_neg hp]
theorem assoc_none {acc : List (Str × Str)} {k : Str} (h : acc.any (fun p => decide (p.1 = k)) = false) : assocS acc k = none := by
  induction acc with
  | nil => rfl
  | cons p r ih =>
    rw [List.any_cons, Bool.or_eq_false_iff] at h
    rw [assocS, if_neg (of_decide_eq_false h.1)]
    exact ih h.2
theorem assoc_stored (acc : List (Str × Str)) (k y x : Str) : assocS (storedS acc k y) x = if k = x then some y else assocS acc x := by
  unfold storedS
  cases h : acc.any (fun p => decide (p.1 = k)) with
  | true => rw [if_pos rfl, assoc_map, h]; rfl
  | false =>
    rw [if_neg (by simp), assoc_app]
    by_cases hx : k = x
    · subst hx
      rw [assoc_none h, if_pos rfl]
    · rw [if_neg hx, if_neg hx]
      cases assocS acc x <;> rfl
theorem assoc_merged : ∀ (l acc : List (Str × Str)) (x : Str), assocS (mergedS acc l) x = match lookS l x with | some y => some y | none => assocS acc x
  | [], _, _ => rfl
  | p :: r, acc, x => by
    show assocS (mergedS (storedS acc p.1 p.2) r) x = _
    rw [assoc_merged r, assoc_stored, lookS]
    cases lookS r x with
    | some y => rfl
    | none =>
      by_cases h : p.1 = x
      · simp only [if_pos h]
      · simp only [if_neg h]

inductive VS : List (Str × Value) → List (Str × Str) → Prop
  | nil : VS [] []
  | cons {k y : Str} {t : Tok} {kvs : List (Str × Value)} {ys : List (Str × Str)} : VS kvs ys → VS ((k, .str y t) :: kvs) ((k, y) :: ys)
theorem VS.any {kvs : List (Str × Value)} {ys : List (Str × Str)} (h : VS kvs ys) (k : Str) : kvs.any (fun p => decide (p.1 = k)) = ys.any (fun p => decide (p.1 = k)) := by
  induction h with
  | nil => rfl
  | cons _ ih => rw [List.any_cons, List.any_cons, ih]
theorem VS.map {kvs : List (Str × Value)} {ys : List (Str × Str)} (h : VS kvs ys) (k y : Str) (t : Tok) : VS (kvs.map fun p => if p.1 = k then (p.1, .str y t) else p) (ys.map fun p => if p.1 = k then (p.1, y) else p) := by
  induction h with
  | nil => exact .nil
  | @cons k' y' t' kvs ys _ ih =>
    rw [List.map_cons, List.map_cons]
    by_cases hk : k' = k
    · rw [if_pos hk, if_pos hk]; exact .cons ih
    · rw [if_neg hk, if_neg hk]; exact .cons ih
theorem VS.snoc {kvs : List (Str × Value)} {ys : List (Str × Str)} (h : VS kvs ys) (k y : Str) (t : Tok) : VS (kvs ++ [(k, .str y t)]) (ys ++ [(k, y)]) := by
  induction h with
  | nil => exact .cons .nil
  | cons _ ih => exact .cons ih
theorem VS.stored {kvs : List (Str × Value)} {ys : List (Str × Str)} (h : VS kvs ys) (k y : Str) (t : Tok) : VS (stored kvs k (.str y t)) (storedS ys k y) := by
  unfold PySem.stored storedS
  rw [h.any k]
  split
  · exact h.map k y t
  · exact h.snoc k y t
theorem VS.merged {kvs : List (Str × Value)} {ys : List (Str × Str)} (h : VS kvs ys) : ∀ {acc : List (Str × Value)} {as : List (Str × Str)}, VS acc as → VS (merged acc kvs) (mergedS as ys) := by
  induction h with
  | nil => intro acc as ha; exact ha
  | cons _ ih => intro acc as ha; exact ih (ha.stored _ _ _)
def encS (ys : List (Str × Str)) : List (PyData × PyData) := ys.map fun p => (.str p.1, .str p.2)
theorem VS.flat {kvs : List (Str × Value)} {ys : List (Str × Str)} (h : VS kvs ys) : FlatPairs PyData.str kvs (encS ys) := by
  induction h with
  | nil => exact .nil
  | cons _ ih => exact .cons (Flat.str _ _) ih
theorem lookup_enc (ys : List (Str × Str)) (x : Str) : lookup (.str x) (encS ys) = (assocS ys x).map PyData.str := by
  induction ys with
  | nil => rfl
  | cons p r ih =>
    show (if PySem.Spec.same (.str p.1) (.str x) then some (PyData.str p.2) else lookup (.str x) (encS r)) = _
    rw [assocS, ih, same_str]
    by_cases h : p.1 = x
    · rw [if_pos h, if_pos (by simpa using h)]; rfl
    · rw [if_neg h, if_neg (by simpa using h)]

/-- the dict of a list of named pairs -/
def DictIs (prog : Program) (w : World) (o : Obj) (d : Addr) (f : Str → Option Str) : Prop :=
  (d == sysModules) = false ∧ ∃ kvs D, o.IsDictOf (strKind prog w) kvs ∧ FlatPairs PyData.str kvs D ∧ ∀ x, lookup (.str x) D = (f x).map PyData.str

section
variable {prog : Program} {w : World} {A : Around} {E : Value → Shared → Prop} {s : Shared} {h₀ : Heap} {L : Addr} {m : Str → Option Value} {news : List (Addr × Obj)} {d : Addr} {o : Obj} {f : Str → Option Str}
theorem DictIs.tab (H : DictIs prog w o d f) (N : News h₀ L s.heap news) (hm : (d, o) ∈ news) : ∃ D, StrTab prog w s.heap d D ∧ ∀ x, lookup (.str x) D = (f x).map PyData.str := by
  obtain ⟨lo, kvs, D, h1, h2, h3⟩ := H
  exact ⟨D, TabAt.ofNews N hm lo h1 h2, h3⟩
theorem DictIs.notin (H : DictIs prog w o d f) (N : News h₀ L s.heap news) (hm : (d, o) ∈ news) {x : Str} {t : Tok} {Q : Value → Shared → Prop} (h : Q (.bool (!(f x).isSome)) { s with toks := s.toks + 1 }) :
    wpAny (model prog w) A (compareOp .NotIn (.str x t) (.ref d)) Q E s := by
  obtain ⟨D, T, hl⟩ := H.tab N hm
  refine notin_strTab T ?_
  rw [hl, Option.isSome_map]
  exact h
theorem DictIs.notin0 (H : DictIs prog w o d f) (N : News h₀ L s.heap news) (hm : (d, o) ∈ news) {x : Str} {t : Tok} {Q : Value → Shared → Prop} (hf : f x = none) (h : Q (.bool true) { s with toks := s.toks + 1 }) :
    wpAny (model prog w) A (compareOp .NotIn (.str x t) (.ref d)) Q E s := H.notin N hm (by rw [hf]; exact h)
theorem DictIs.notin1 (H : DictIs prog w o d f) (N : News h₀ L s.heap news) (hm : (d, o) ∈ news) {x y : Str} {t : Tok} {Q : Value → Shared → Prop} (hf : f x = some y) (h : Q (.bool false) { s with toks := s.toks + 1 }) :
    wpAny (model prog w) A (compareOp .NotIn (.str x t) (.ref d)) Q E s := H.notin N hm (by rw [hf]; exact h)
theorem DictIs.item (H : DictIs prog w o d f) (N : News h₀ L s.heap news) (hm : (d, o) ∈ news) {value slice : PySem.Expr} {x y : Str} {t : Tok} {Q : Value → Shared → Prop} (hf : f x = some y) (h : ∀ t', Q (.str y t') { s with toks := s.toks + 1 })
    (hs : subscripted slice false (.ref d) (.str x t) = operate [.ref d, .str x t] (getItem (.ref d) (.str x t)) := by with_unfolding_all rfl) (hg : ∀ r, letTemporaryGo value (.ref d) r = pure () := by intro _; with_unfolding_all rfl) :
    wpAny (model prog w) A (subscriptTail value slice (.ref d) (.str x t)) Q E s := by
  obtain ⟨D, T, hl⟩ := H.tab N hm
  refine item_strTab T (by rw [hl, hf]; rfl) (fun v hv => ?_) hs hg
  obtain ⟨t', rfl⟩ := hv.str_inv
  exact h t'

/-- the named pairs of a list -/
def namedOf : List Pair → List (Str × Str)
  | [] => []
  | p :: r => match p.1 with
    | some n => (n, p.2) :: namedOf r
    | none => namedOf r
def lookP (ps : List Pair) (x : Str) : Option Str := lookS (namedOf ps) x

theorem kpairs_of {vs : List Value} {ps : List Pair} (h : PairsAt news vs ps) (hn : ∀ p ∈ ps, p.1.isSome = true) : ∃ kvs, Dp.KPairs (strKind prog w) news vs kvs ∧ VS kvs (namedOf ps) ∧ kvs.length = ps.length := by
  induction h with
  | nil => exact ⟨[], .nil, .nil, rfl⟩
  | @cons a p t1 t2 vs ps hm _ ih =>
    obtain ⟨kvs, h1, h2, h3⟩ := ih fun q hq => hn q (List.mem_cons_of_mem _ hq)
    obtain ⟨nm, y⟩ := p
    cases nm with
    | none => exact absurd (hn (none, y) List.mem_cons_self) (by simp)
    | some nm => exact ⟨(nm, .str y t2) :: kvs, .cons hm (strKind_is prog w nm t1) h1, .cons h2, by simp [h3]⟩

theorem dict_K {l : Addr} {k : Nat} {vs : List Value} {ps : List Pair} {Q : Value → Shared → Prop} (hh : A.handled = none) (F : Fr h₀ L s.heap m) (N : News h₀ L s.heap news) (hbig : sysModules < h₀.objs.size)
    (hl : (l, ({ cls := .type "list", data := .seq vs.toArray k } : Obj)) ∈ news) (hps : PairsAt news vs ps) (hn : ∀ p ∈ ps, p.1.isSome = true) (hsz : ps.length ≤ 100000)
    (h : ∀ h' d o tk, Fr h₀ L h' m → News h₀ L h' ((d, o) :: news) → DictIs prog w o d (lookP ps) → Q (.ref d) { s with heap := h', toks := tk }) :
    wpAny (model prog w) A (call (.type "dict") [.ref l]) Q E s := by
  obtain ⟨kvs, h1, h2, h3⟩ := kpairs_of (prog := prog) (w := w) hps hn
  refine Dp.call_dict_pairs hh hl h1 (fun p hp => (N p hp).1) (by omega) fun h' tk hD hk => ?_
  obtain ⟨o, ho, hd⟩ := Heap.dictOf_iff.mp hD
  have F' := F.keeps hk
  have N' : News h₀ L h' ((s.heap.objs.size, o) :: news) := fun p hp => by
    rcases List.mem_cons.mp hp with rfl | hp
    · exact ⟨ho, Nat.ne_of_gt F.ns.lt, ktu_new F (Nat.le_refl _)⟩
    · exact ⟨hk _ _ (N p hp).1, (N p hp).2⟩
  refine h h' _ o tk F' N' ⟨F.notModules hbig, _, _, hd, (h2.merged .nil).flat, fun x => ?_⟩
  rw [lookup_enc, assoc_merged]
  unfold lookP
  cases lookS (namedOf ps) x <;> rfl
end
end Mine
end
section
open PySem PySem.W PyProof.Rows
set_option maxRecDepth 100000
set_option maxHeartbeats 8000000
namespace Mine
open PySem.Calls PyProof.V PySem.Spec PySem.Builtin.Re

theorem TellR.use {w : World} {mg mb : Str → Option Value} {mean : ExcName → Option Value} {bd bu : Nat} {f : Addr} {args : List Value} {Pre : Heap → List (Addr × Obj) → Prop} {Out : List (Addr × Obj) → Value → Prop} {Bad : Str → Prop}
    (C : TellR w mg mb mean bd bu f args Pre Out Bad)
    {dp un : Nat} {gd : Option (List Code)} {cn : Str} {cs : Scope} {a : Addr} {ccd : Value} {cl : List (Str × Addr)} {outer : List Env} {A₀ : Around} {base h₀ : Heap} {L : Addr} {m : Str → Option Value} {news : List (Addr × Obj)} {s : Shared}
    {Q E : Value → Shared → Prop}
    (B : Below A₀ base outer h₀) (F : Fr h₀ L s.heap m) (X : (Mine.hd.heap_39 w.params).In h₀) (N : News h₀ L s.heap news)
    (T : Top Mine.hd.view_39 (looseW Mine.hd.view_39 [Str.ofString "PYTHON_FORMAT", Str.ofString "_string_format_compatibilities"]) mean mg mb h₀)
    (hk : cs.kind = .function) (hd : dp + bd < recursionLimit) (hu : un + bu < cLine) (hP : Pre base news)
    (ret : ∀ r tl h' tk', Fr h₀ L h' m → News h₀ L h' (tl ++ news) → Out tl r → Q r { s with heap := h', toks := tk' })
    (exc : ∀ e t x tx h' tk' g₂, Bad x → Fr h₀ L g₂ m → g₂.UpToSlots h' → RaisedK base (envX cn cs L a ccd cl :: outer) e (.ref 46) t [.str x tx] news h' → E (.ref e) { s with heap := h', toks := tk' }) :
    wpAny (model PySem.Challenge.rw_ey0006_01.row.prog w) (ktrTop dp un gd cn cs L a ccd cl outer) (call (.ref f) args) Q E s :=
  C _ _ _ _ _ _ _ _ _ _ _ _ _ _ _ _ _ _ B F X N T hk hd hu hP ret exc

theorem Parses.bound {x : Str} {l : List Pair} {n : Nat} (h : Parses x l n) : l.length ≤ n := by
  induction h with
  | stop _ => exact Nat.le_refl _
  | go _ _ ih =>
    unfold addTo
    split
    · omega
    · rw [List.length_cons]; omega
theorem PairsAt.get {news : List (Addr × Obj)} {vs : List Value} {ps : List Pair} (h : PairsAt news vs ps) : ∀ {i : Nat} {x : Value}, vs[i]? = some x → ∃ a p t1 t2, x = .ref a ∧ ps[i]? = some p ∧ (a, tup2 p t1 t2) ∈ news := by
  induction h with
  | nil => intro i x hx; simp at hx
  | @cons a p t1 t2 vs ps hm _ ih =>
    intro i x hx
    cases i with
    | zero =>
      rw [List.getElem?_cons_zero] at hx ⊢
      exact ⟨a, p, t1, t2, (Option.some.inj hx).symm, rfl, hm⟩
    | succ i =>
      rw [List.getElem?_cons_succ] at hx ⊢
      exact ih hx
theorem truthy_cons {prog : Program} {w : World} {A : Around} {E : Value → Shared → Prop} {s : Shared} {h₀ : Heap} {L l : Addr} {k : Nat} {v : Value} {vs : List Value} {news : List (Addr × Obj)} {Q : Bool → Shared → Prop} (N : News h₀ L s.heap news) (hm : (l, ({ cls := .type "list", data := .seq (v :: vs).toArray k } : Obj)) ∈ news) (hl : vs.length ≤ 100000)
    (h : Q true { s with toks := s.toks + 1 + 1 }) : wpAny (model prog w) A (truthy (.ref l)) Q E s := by
  refine wpAny_truthy_list (News.isList N hm) ?_ ?_
  · rw [List.size_toArray, List.length_cons]
    have : ((vs.length + 1 : Nat) : Int) ≤ 100001 := by omega
    exact Int.lt_of_le_of_lt this (by decide)
  · have e : (!(v :: vs).toArray.isEmpty) = true := by simp
    rw [e]; exact h
def quoted (x : Str) : Str := "'" ++ x ++ "'"
structure Easy (x : Str) : Prop where
  repr : reprText x = quoted x
  size : x.length ≤ 10
theorem quoted_len (x : Str) : (quoted x).length = x.length + 2 := by
  unfold quoted
  rw [strLen_append, strLen_append]
  show 1 + x.length + 1 = _
  omega
def badMsg (n x y : Str) : Str := Str.empty ++ Str.ofString "incompatible format for placeholder " ++ n ++ Str.ofString ": " ++ quoted x ++ Str.ofString " and " ++ quoted y ++ Str.ofString " are not compatible"
def unkMsg (n : Str) : Str := Str.empty ++ Str.ofString "unknown named placeholder " ++ quoted n
def badPos : Nat → List Pair → List Pair → Option Str
  | i, p :: ps, q :: qs => if compat p.2 q.2 then badPos (i + 1) ps qs else some (badMsg (Str.ofString (toString ((i : Int) + 1))) p.2 q.2)
  | _, _, _ => none
def badName (f : Str → Option Str) : List Pair → Option Str
  | [] => none
  | q :: qs => match q.1 with
    | none => none
    | some n => match f n with
      | none => some (unkMsg n)
      | some y => if compat q.2 y then badName f qs else some (badMsg (quoted n) q.2 y)
def validT (ps qs : List Pair) : Option Str :=
  if posOf ps && qs.isEmpty then some (Str.ofString "placeholders are incompatible")
  else if posOf ps != posOf qs then some (Str.ofString "the format strings are of different kinds")
  else if posOf ps then (if ps.length = qs.length then badPos 0 ps qs else some (Str.ofString "positional format placeholders are unbalanced"))
  else badName (lookP ps) qs
def validS (ps qs : List Pair) : Option Str :=
  if ps.isEmpty then none else if mixes ps then some mixMsg else if mixes qs then some mixMsg else validT ps qs
theorem valid1 {p : Pair} {ps qs : List Pair} (h : mixes (p :: ps) = true) : validS (p :: ps) qs = some mixMsg := by
  show (if mixes (p :: ps) = true then _ else _) = _
  rw [if_pos h]
theorem valid2 {p : Pair} {ps qs : List Pair} (h : mixes (p :: ps) = false) (h2 : mixes qs = true) : validS (p :: ps) qs = some mixMsg := by
  show (if mixes (p :: ps) = true then _ else if mixes qs = true then _ else _) = _
  rw [h, h2]; rfl
theorem valid3 {p : Pair} {ps qs : List Pair} (h : mixes (p :: ps) = false) (h2 : mixes qs = false) : validS (p :: ps) qs = validT (p :: ps) qs := by
  show (if mixes (p :: ps) = true then _ else if mixes qs = true then _ else _) = _
  rw [h, h2]; rfl
theorem badPos_step {ps qs : List Pair} {i : Nat} {p q : Pair} (hp : ps[i]? = some p) (hq : qs[i]? = some q) :
    badPos i (ps.drop i) (qs.drop i) = if compat p.2 q.2 then badPos (i + 1) (ps.drop (i + 1)) (qs.drop (i + 1)) else some (badMsg (Str.ofString (toString ((i : Int) + 1))) p.2 q.2) := by
  obtain ⟨h1, e1⟩ := List.getElem?_eq_some_iff.mp hp
  obtain ⟨h2, e2⟩ := List.getElem?_eq_some_iff.mp hq
  rw [List.drop_eq_getElem_cons h1, List.drop_eq_getElem_cons h2, e1, e2, badPos]
theorem badPos_end {ps qs : List Pair} {i : Nat} (h : ps.length ≤ i) : badPos i (ps.drop i) (qs.drop i) = none := by
  rw [List.drop_eq_nil_of_le h]
  cases qs.drop i <;> rfl
theorem validNe {ps qs : List Pair} {c c' : Str} (h1 : mixes ((none, c) :: ps) = false) (h2 : mixes ((none, c') :: qs) = false) (hl : ¬ ((none, c) :: ps).length = ((none, c') :: qs).length) :
    validS ((none, c) :: ps) ((none, c') :: qs) = some (Str.ofString "positional format placeholders are unbalanced") := by
  rw [valid3 h1 h2]
  exact if_neg hl
theorem validPos {ps qs : List Pair} {c c' : Str} {r : Option Str} (h1 : mixes ((none, c) :: ps) = false) (h2 : mixes ((none, c') :: qs) = false) (hl : ((none, c) :: ps).length = ((none, c') :: qs).length) (hb : badPos 0 ((none, c) :: ps) ((none, c') :: qs) = r) :
    validS ((none, c) :: ps) ((none, c') :: qs) = r := by
  rw [valid3 h1 h2]
  exact (if_pos hl).trans hb
theorem lookP_mem {ps : List Pair} {x y : Str} (h : lookP ps x = some y) : ∃ p ∈ ps, p.2 = y := by
  unfold lookP at h
  induction ps with
  | nil => cases h
  | cons p r ih =>
    obtain ⟨nm, z⟩ := p
    cases nm with
    | none =>
      obtain ⟨q, hq, he⟩ := ih h
      exact ⟨q, List.mem_cons_of_mem _ hq, he⟩
    | some n =>
      have h' : (match lookS (namedOf r) x with | some y => some y | none => if n = x then some z else none) = some y := h
      cases hr : lookS (namedOf r) x with
      | some y' =>
        rw [hr] at h'
        obtain ⟨q, hq, he⟩ := ih (hr.trans h')
        exact ⟨q, List.mem_cons_of_mem _ hq, he⟩
      | none =>
        rw [hr] at h'
        by_cases hn : n = x
        · rw [if_pos hn] at h'
          exact ⟨_, List.mem_cons_self, Option.some.inj h'⟩
        · rw [if_neg hn] at h'; cases h'
theorem badName_none {f : Str → Option Str} {n y : Str} {qs : List Pair} (h : f n = none) : badName f ((some n, y) :: qs) = some (unkMsg n) := by
  show (match f n with | none => some (unkMsg n) | some z => if compat y z then badName f qs else some (badMsg (quoted n) y z)) = _
  rw [h]
theorem badName_ok {f : Str → Option Str} {n y z : Str} {qs : List Pair} (h : f n = some z) (hc : compat y z = true) : badName f ((some n, y) :: qs) = badName f qs := by
  show (match f n with | none => some (unkMsg n) | some z => if compat y z then badName f qs else some (badMsg (quoted n) y z)) = _
  rw [h]
  exact if_pos hc
theorem badName_bad {f : Str → Option Str} {n y z : Str} {qs : List Pair} (h : f n = some z) (hc : compat y z = false) : badName f ((some n, y) :: qs) = some (badMsg (quoted n) y z) := by
  show (match f n with | none => some (unkMsg n) | some z => if compat y z then badName f qs else some (badMsg (quoted n) y z)) = _
  rw [h]
  exact if_neg (by rw [hc]; simp)
theorem named_of {ps : List Pair} (h : mixes ps = false) (hp : posOf ps = false) : ∀ p ∈ ps, p.1.isSome = true := fun p hm => by
  have := List.any_eq_false.mp h p hm
  rw [hp] at this
  cases hq : p.1 with
  | none => rw [hq] at this; simp at this
  | some _ => rfl
theorem repr_easy {prog : Program} {w : World} {A : Around} {E : Value → Shared → Prop} {s : Shared} {x : Str} {t : Tok} {Q : Value → Shared → Prop} (hx : Easy x)
    (h : ∀ t' k, Q (.str (quoted x) t') { s with toks := k }) : wpAny (model prog w) A (pyReprObj (.str x t)) Q E s := by
  refine pyReprObj_str ?_ ?_
  · rw [hx.repr]; exact h _ _
  · rw [hx.repr, quoted_len]
    exact Nat.le_trans (Nat.add_le_add_right hx.size 2) (by decide)
section
variable {w : World} {mg mb : Str → Option Value} {mean : ExcName → Option Value}
local macro_rules | `(tactic| walk_at "call ref") => `(tactic| refine Stop.of ?_)

local macro_rules | `(tactic| walk_at "exec For Tuple Call cons nil") => `(tactic| refine Stop.of ?_)
local macro_rules | `(tactic| walk_at "exec For Tuple Name cons nil") => `(tactic| (k_here; (rename Fr _ _ _ _ => lF'); (with_unfolding_all refine' For_turns lF' ?_; k_whole)))
local macro_rules | `(tactic| walk_at "ItemsRest") => `(tactic| refine Stop.of ?_)
local macro_rules | `(tactic| walk_at "pyIter ref") => `(tactic| (k_here; (with_reducible show wpAny _ _ (pyIter (Value.ref _)) (fun it s₂ => TurnsAt _ _ _ _ _ _ _ _ _ it s₂) _ _); k_dflt (refine' iter_listTurns ?h ?F ?N ?m ?c ?d ?_; (case h => with_unfolding_all rfl); (case F => k_asm); (case N => k_asm); (case m => exact List.mem_cons_of_mem _ List.mem_cons_self); (case c => exact rfl); (case d => exact rfl); k_whole)))
local macro_rules | `(tactic| walk_at "call type:zip") => `(tactic| refine Stop.of ?_)
local macro_rules | `(tactic| walk_at "call type:enumerate") => `(tactic| refine Stop.of ?_)
local macro_rules | `(tactic| walk_at "call type:dict") => `(tactic| refine Stop.of ?_)
local macro_rules | `(tactic| walk_at "formatField int") => `(tactic| refine Stop.of ?_)
local macro_rules | `(tactic| walk_at "pyReprObj str") => `(tactic| (refine repr_easy (by assumption) ?_; intro _ _))
local macro_rules | `(tactic| walk_at "joinParts") => `(tactic| ((with_reducible show wpAny _ _ (joinParts _ (evalEach [] _)) _ _ _); refine joinParts_nilE ?_; refine joinParts_nil ?_ (by (refine' Nat.le_trans ?hl ?hm; (case hl => (repeat' ((with_reducible show PySem.Str.length _ ≤ _); first | (with_reducible assumption) | (with_reducible refine' KT.len_app ?_ ?_) | exact Nat.le_refl _))); (case hm => exact Nat.le_of_ble_eq_true rfl)))))
local macro_rules | `(tactic| walk_at "And") => `(tactic| ((with_reducible show PySem.Str.length (_ ++ _) ≤ sizeLine ∧ wpAny _ _ (joinParts _ _) _ _ _); refine ⟨by (refine' Nat.le_trans ?hl ?hm; (case hl => (repeat' ((with_reducible show PySem.Str.length _ ≤ _); first | (with_reducible assumption) | (with_reducible refine' KT.len_app ?_ ?_) | exact Nat.le_refl _))); (case hm => exact Nat.le_of_ble_eq_true rfl)), ?_⟩))
theorem val_tells (x y : Str) (tx ty : Tok) (ps qs : List Pair) (n n' : Nat) (hpx : Parses x ps n) (hpy : Parses y qs n') (hn : n ≤ 100000) (hn' : n' ≤ 100000) (hea : ∀ p ∈ ps, Easy p.2 ∧ ∀ z ∈ p.1, Easy z) (heb : ∀ p ∈ qs, Easy p.2 ∧ ∀ z ∈ p.1, Easy z) : TellR w mg mb mean 40 400 81 [.str x tx, .str y ty] (fun _ _ => True)
    (fun _ r => validS ps qs = none ∧ r = .none) (fun z => validS ps qs = some z) := by
  k_with_none
  w_top off
  unfold TellR
  intro dp un gd cn cs a ccd cl outer A₀ base h₀ L m news s Q E B F X N T hk hd hu hP ret exc
  revert X; k_fill; intro X
  refine wpAny_call ?_
  k_dflt ktr_enter
  k_steps
  refine Stop.on ?_
  refine Tell.use (parse_tells x tx ps n hpx hn) (by k_asm) (by k_asm) (by k_asm) (by k_asm) (by k_asm) rfl (by ktr_unf; ktr_room) (by ktr_unf; ktr_units) trivial ?_
  rintro _ t1 h1 tk1 F1 N1 ⟨a1, vs1, k1, rfl, ha1, hp1⟩
  replace N1 := newsAdd N1 (List.mem_append_left _ ha1)
  k_steps
  refine Stop.on ?_
  refine Tell.use (parse_tells y ty qs n' hpy hn') (by k_asm) (by k_asm) (by k_asm) (by k_asm) (by k_asm) rfl (by ktr_unf; ktr_room) (by ktr_unf; ktr_units) trivial ?_
  rintro _ t2 h2 tk2 F2 N2 ⟨a2, vs2, k2, rfl, ha2, hp2⟩
  have m1 := List.mem_append_right t2 (List.mem_cons_self (a := (a1, ({ cls := .type "list", data := .seq vs1.toArray k1 } : Obj))) (l := t1 ++ news))
  have m2 := List.mem_append_left ((a1, ({ cls := .type "list", data := .seq vs1.toArray k1 } : Obj)) :: (t1 ++ news)) ha2
  have q1 := hp1.mono (news' := t2 ++ (a1, ({ cls := .type "list", data := .seq vs1.toArray k1 } : Obj)) :: (t1 ++ news)) fun p hp => List.mem_append_right _ (List.mem_cons_of_mem _ (List.mem_append_left _ hp))
  have q2 := hp2.mono (news' := t2 ++ (a1, ({ cls := .type "list", data := .seq vs1.toArray k1 } : Obj)) :: (t1 ++ news)) fun p hp => List.mem_append_left _ hp
  have sub : ∀ p ∈ news, p ∈ t2 ++ (a1, ({ cls := .type "list", data := .seq vs1.toArray k1 } : Obj)) :: (t1 ++ news) := fun p hp => List.mem_append_right _ (List.mem_cons_of_mem _ (List.mem_append_right _ hp))
  clear hp1 hp2 ha1 ha2
  generalize t2 ++ (a1, ({ cls := .type "list", data := .seq vs1.toArray k1 } : Obj)) :: (t1 ++ news) = objs at N2 m1 m2 q1 q2 sub
  replace N2 := newsAdd (newsAdd N2 m1) (List.mem_cons_of_mem _ m2)
  rcases ps with _ | ⟨p, ps⟩
  · cases q1
    k_steps
    rename_i kF kN _ _
    exact ret _ [] _ _ kF (fun p hp => kN p (List.mem_cons_of_mem _ (List.mem_cons_of_mem _ (sub p hp)))) ⟨rfl, rfl⟩
  · have lps := hpx.bound
    have ll1 := q1.length
    obtain ⟨a, v1, rfl⟩ : ∃ a v1, vs1 = .ref a :: v1 := by cases q1; exact ⟨_, _, rfl⟩
    rw [List.length_cons, List.length_cons] at ll1
    rw [List.length_cons] at lps
    k_steps
    refine truthy_cons (by k_asm) (List.mem_cons_of_mem _ List.mem_cons_self) (by omega) ?_
    k_steps
    refine Stop.on ?_
    refine TellR.use (check_tells a1 (.ref a :: v1) k1 (p :: ps)) (by k_asm) (by k_asm) (by k_asm) (by k_asm) (by k_asm) rfl (by ktr_unf; ktr_room) (by ktr_unf; ktr_units) ⟨List.mem_cons_of_mem _ List.mem_cons_self, q1.mono fun p hp => List.mem_cons_of_mem _ (List.mem_cons_of_mem _ hp)⟩ ?_ ?_
    rotate_left
    · intro e t z tz h3 tk3 g₂ hBad F3 U3 R3
      k_steps
      rename_i R' U'
      exact exc _ _ _ _ _ _ _ (by rw [valid1 hBad.1, hBad.2]) (by k_asm) U' (raisedK_sub R' fun p hp => List.mem_cons_of_mem _ (List.mem_cons_of_mem _ (sub p hp)))
    rintro _ tl3 h3 tk3 F3 N3 ⟨rfl, hmix, rfl⟩
    rw [List.nil_append] at N3
    k_steps
    refine Stop.on ?_
    refine TellR.use (check_tells a2 vs2 k2 qs) (by k_asm) (by k_asm) (by k_asm) (by k_asm) (by k_asm) rfl (by ktr_unf; ktr_room) (by ktr_unf; ktr_units) ⟨List.mem_cons_self, q2.mono fun p hp => List.mem_cons_of_mem _ (List.mem_cons_of_mem _ hp)⟩ ?_ ?_
    rotate_left
    · intro e t z tz h3 tk3 g₂ hBad F3 U3 R3
      k_steps
      rename_i R' U'
      exact exc _ _ _ _ _ _ _ (by rw [valid2 hmix hBad.1, hBad.2]) (by k_asm) U' (raisedK_sub R' fun p hp => List.mem_cons_of_mem _ (List.mem_cons_of_mem _ (sub p hp)))
    rintro _ tl3 h3 tk3 F3 N3 ⟨rfl, hmixb, rfl⟩
    rw [List.nil_append] at N3
    rcases p with ⟨_ | nm, c⟩
    · rcases qs with _ | ⟨⟨_ | nm', c'⟩, qs⟩
      · cases q2
        have q2 : PairsAt objs [] [] := .nil
        dsimp only [posOf, Option.isNone_none, Option.isNone_some] at F3 N3 ⊢
        k_steps
        rename_i R' U'
        exact exc _ _ _ _ _ _ _ ((valid3 hmix hmixb).trans rfl) (by k_asm) U' (raisedK_sub R' fun p hp => List.mem_cons_of_mem _ (List.mem_cons_of_mem _ (sub p hp)))
      all_goals (
        have lqs := hpy.bound
        have ll2 := q2.length
        obtain ⟨b, v2, rfl⟩ : ∃ b v2, vs2 = .ref b :: v2 := by cases q2; exact ⟨_, _, rfl⟩
        rw [List.length_cons, List.length_cons] at ll2
        rw [List.length_cons] at lqs
        dsimp only [posOf, Option.isNone_none, Option.isNone_some] at F3 N3 ⊢)
      · k_steps
        refine call_len_list (News.isList (by k_asm) (List.mem_cons_of_mem _ List.mem_cons_self)) ?_ ?_
        · rw [List.size_toArray, List.length_cons]; omega
        k_steps
        refine call_len_list (News.isList (by k_asm) List.mem_cons_self) ?_ ?_
        · rw [List.size_toArray, List.length_cons]; omega
        k_steps
        · rename_i hne _ _ _ _ _ R' U'
          exact exc _ _ _ _ _ _ _ (validNe hmix hmixb (by rw [List.length_cons, List.length_cons]; simp only [List.size_toArray, List.length_cons] at hne; omega)) (by k_asm) U' (raisedK_sub R' fun p hp => List.mem_cons_of_mem _ (List.mem_cons_of_mem _ (sub p hp)))
        · refine Stop.on ?_
          rename Fr _ _ _ _ => lF'
          rename ((_ : Int) = _) => hle
          with_unfolding_all refine' Ez.For_ez lF' rfl ?_
          k_whole
          k_steps
          refine Stop.on ?_
          rename News _ _ _ _ => kN
          have A1 := fun p hp => Heap.lt_size (kN p hp).1
          have A2 := lF'.ns.lt
          have A3 := fun (b : Nat) hb => ktu_new (b := b) lF' hb
          refine call_zip_2 (News.isList kN (List.mem_cons_of_mem _ List.mem_cons_self)) (News.isList kN List.mem_cons_self) fun h4 hz hTI hTO hi1 hi2 hsz4 hk4 => ?_
          have F4 := lF'.keeps hk4
          have N4 := kN.grown hk4
          clear lF' kN
          k_steps
          refine Stop.on ?_
          refine Ez.call_enumerate_zip hz fun h5 hE hsz5 hk5 => ?_
          have F5 := F4.keeps hk5
          have N5 := N4.grown hk5
          have B5 : Ez.ZipBase _ _ _ _ _ 0 h5 := ⟨hk5 _ _ hTI, ⟨_, _, hk5 _ _ hTO⟩, hi1.at fun o e => hk5 _ o e, hi2.at fun o e => hk5 _ o e, News.isList N5 (List.mem_cons_of_mem _ List.mem_cons_self), News.isList N5 List.mem_cons_self⟩
          have Z5 : Ez.ZipAt _ _ _ _ _ 0 h5 := .inl ⟨hk5 _ _ hz, B5⟩
          have hE' := hE
          rw [hsz4] at hE' hsz5
          clear F4 N4 B5 hz hTI hTO hi1 hi2 hk4 hk5
          k_steps
          refine wpAny_pyIter_enum (i := 0) hE ?_
          refine ⟨_, a1, a2, _, _, k1, k2, _, _, fun i _ => badPos 0 ((none, c) :: ps) ((none, c') :: qs) = badPos i (((none, c) :: ps).drop i) (((none, c') :: qs).drop i), congrArg Value.ref hsz4, A1 _ (List.mem_cons_of_mem _ List.mem_cons_self), A1 _ List.mem_cons_self, A2, A1, A3, ?_, List.mem_cons_of_mem _ List.mem_cons_self, List.mem_cons_self, hE', Z5, Nat.le_of_eq hsz5.symm, F5, N5, rfl, ?_, ?_⟩
          · have hle' := Int.ofNat.inj hle
            rwa [List.size_toArray, List.size_toArray] at hle'
          · clear F5 N5 hE hE' Z5 hsz5 hsz4
            intro i x₁ y₁ M h tk its T Z t hx hy hJ F₁ hIt N₁
            have hi0 : (0 : Int) ≤ (i : Int) := Int.natCast_nonneg i
            have hi1 : (i : Int) < 200000 := by
              have := (List.getElem?_eq_some_iff.mp hx).1
              rw [List.length_cons] at this
              omega
            obtain ⟨aa, pa, t1, t2, rfl, hpa, hma⟩ := q1.get hx
            obtain ⟨ab, pb, t3, t4, rfl, hpb, hmb⟩ := q2.get hy
            have N₂ := newsAdd (newsAdd N₁ (List.mem_cons_of_mem _ (List.mem_cons_of_mem _ (List.mem_append_right _ (List.mem_cons_of_mem _ (List.mem_cons_of_mem _ hma)))))) (List.mem_cons_of_mem _ (List.mem_cons_of_mem _ (List.mem_cons_of_mem _ (List.mem_append_right _ (List.mem_cons_of_mem _ (List.mem_cons_of_mem _ hmb))))))
            clear N₁
            obtain ⟨n₁, y₁⟩ := pa
            obtain ⟨n₂, y₂⟩ := pb
            dsimp only [tup2] at N₂
            have ea := (hea _ (List.mem_of_getElem? hpa)).1
            have eb := (heb _ (List.mem_of_getElem? hpb)).1
            dsimp only at ea eb
            have la : (quoted y₁).length ≤ 12 := by rw [quoted_len]; exact Nat.add_le_add_right ea.size 2
            have lb : (quoted y₂).length ≤ 12 := by rw [quoted_len]; exact Nat.add_le_add_right eb.size 2
            k_steps
            refine Stop.on ?_
            refine Tell.use (compat_tells y₁ y₂ _ _) (by k_asm) (by k_asm) (by k_asm) (by k_asm) (by k_asm) rfl (by ktr_unf; ktr_room) (by ktr_unf; ktr_units) trivial ?_
            rintro _ t6 h6 tk6 F6 N6 ⟨rfl, rfl⟩
            rw [List.nil_append] at N6
            k_steps
            · refine ⟨h6, _, _, rfl, F6, fun p hp => N6 p (List.mem_cons_of_mem _ (List.mem_cons_of_mem _ (List.mem_cons_of_mem _ (List.mem_cons_of_mem _ hp)))), ?_⟩
              rename (compat _ _ = true) => hcf
              exact hJ.trans ((badPos_step hpa hpb).trans (if_pos hcf))
            · refine Stop.on ?_
              have ln : (Str.ofString (toString ((i : Int) + 1))).length ≤ 10 := KT.len_num (by omega) (by omega)
              refine field_d (Heap.NoDigits.keeps (Top.nodigits (by assumption)) (Fr.keep (by assumption))) (by omega) (by omega) fun _ _ => ?_
              k_steps
              rename_i R' U'
              rename (compat _ _ = false) => hcf
              refine exc _ _ _ _ _ _ _ (validPos hmix hmixb (by rw [List.length_cons, List.length_cons]; rw [List.size_toArray, List.size_toArray, List.length_cons, List.length_cons] at hle; omega) (hJ.trans ((badPos_step hpa hpb).trans (if_neg (by rw [hcf]; simp))))) (by k_asm) U' (raisedK_sub R' fun p hp => ?_)
              exact List.mem_cons_of_mem _ (List.mem_cons_of_mem _ (List.mem_cons_of_mem _ (List.mem_cons_of_mem _ (List.mem_append_right _ (List.mem_cons_of_mem _ (List.mem_cons_of_mem _ (sub p hp)))))))
          · intro h6 tk6 M6 F6 N6 hJ
            k_steps
            rename_i kF kN _ _
            exact ret _ [] _ _ kF (fun p hp => kN p (List.mem_cons_of_mem _ (List.mem_cons_of_mem _ (sub p hp)))) ⟨validPos hmix hmixb (by rw [List.length_cons, List.length_cons]; rw [List.size_toArray, List.size_toArray, List.length_cons, List.length_cons] at hle; omega) (hJ.trans (badPos_end (by rw [List.length_cons, List.length_cons]; omega))), rfl⟩
      · k_steps
        rename_i R' U'
        exact exc _ _ _ _ _ _ _ ((valid3 hmix hmixb).trans rfl) (by k_asm) U' (raisedK_sub R' fun p hp => List.mem_cons_of_mem _ (List.mem_cons_of_mem _ (sub p hp)))
    · rcases qs with _ | ⟨⟨_ | nm', c'⟩, qs⟩
      · cases q2
        have q2 : PairsAt objs [] [] := .nil
        dsimp only [posOf, Option.isNone_none, Option.isNone_some] at F3 N3 ⊢
        k_steps
        refine Stop.on ?_
        have hb := modules_low (Top.nolimit (by assumption))
        refine dict_K rfl (by k_asm) (by k_asm) hb (List.mem_cons_of_mem _ List.mem_cons_self) (q1.mono fun p hp => List.mem_cons_of_mem _ (List.mem_cons_of_mem _ hp)) (named_of hmix rfl) (by rw [List.length_cons]; omega) fun h7 d o tk7 F7 N7 H7 => ?_
        k_steps
        refine Stop.on ?_
        rename_i I lI
        refine rest_inv (fun xs M n => n = (d, o) :: (a2, ({ cls := .type "list", data := .seq _ k2 } : Obj)) :: (a1, ({ cls := .type "list", data := .seq (Value.ref a :: v1).toArray k1 } : Obj)) :: objs ∧ ∃ vs' qs' pre, xs = vs'.map .val ∧ PairsAt objs vs' qs' ∧ _ = pre ++ qs' ∧ M "type_map" = some (.ref d) ∧ badName (lookP ((some nm, c) :: ps)) _ = badName (lookP ((some nm, c) :: ps)) qs') ?_ ?_ _ _ _ ⟨rfl, _, _, [], rfl, q2, rfl, rfl, rfl⟩
        · rintro M n h₂ tk₂ ⟨rfl, vs', qs', pre, hxs, hqs', hpre, hM, hbn⟩ F₂ N₂
          cases hqs' with
          | cons _ _ => cases hxs
          | nil =>
            k_steps
            rename_i kF kN _ _
            exact ret _ [] _ _ kF (fun p hp => kN p (List.mem_cons_of_mem _ (List.mem_cons_of_mem _ (List.mem_cons_of_mem _ (sub p hp))))) ⟨(valid3 hmix hmixb).trans hbn, rfl⟩
        · rintro a r M n v h₂ tk₂ ⟨rfl, vs', qs', pre, hxs, hqs', hpre, hM, hbn⟩ hv F₂
          rw [canon1 M "type_map", hM] at F₂
          cases hqs' with
          | nil => cases hxs
          | @cons a₁ p t1 t2 vs₁ ps₁ hm hps₁ =>
            rw [List.map_cons] at hxs
            obtain ⟨rfl, rfl⟩ := List.cons.inj hxs
            obtain rfl : v = .ref a₁ := hv
            refine AllObj.cons fun oi hc => AllObj.nil fun N₂ => ?_
            have N₃ := newsAdd N₂ (List.mem_cons_of_mem _ (List.mem_cons_of_mem _ (List.mem_cons_of_mem _ (List.mem_cons_of_mem _ hm))))
            clear N₂
            obtain ⟨nm₂, y₂⟩ := p
            rcases nm₂ with _ | nm₂
            · exact absurd (named_of hmixb rfl (none, y₂) (by have h := List.mem_append_right pre (List.mem_cons_self (a := ((none, y₂) : Pair)) (l := ps₁)); rw [← hpre] at h; exact h)) (by simp)
            dsimp only [tup2, nameV] at N₃
            have E₂ := heb (some nm₂, y₂) (by have h := List.mem_append_right pre (List.mem_cons_self (a := ((some nm₂, y₂) : Pair)) (l := ps₁)); rw [← hpre] at h; exact h)
            have ea := E₂.1
            have eb := E₂.2 nm₂ rfl
            clear E₂
            dsimp only at ea eb
            have la : (quoted y₂).length ≤ 12 := by rw [quoted_len]; exact Nat.add_le_add_right ea.size 2
            have lb : (quoted nm₂).length ≤ 12 := by rw [quoted_len]; exact Nat.add_le_add_right eb.size 2
            k_steps
            rcases hf : lookP ((some nm, c) :: ps) nm₂ with _ | y₃
            · refine DictIs.notin0 H7 (by k_asm) (List.mem_cons_of_mem _ (List.mem_cons_of_mem _ List.mem_cons_self)) hf ?_
              k_steps
              rename_i R' U'
              refine exc _ _ _ _ _ _ _ ((valid3 hmix hmixb).trans (hbn.trans (badName_none hf))) (by k_asm) U' (raisedK_sub R' fun p hp => ?_)
              exact List.mem_cons_of_mem _ (List.mem_append_right _ (List.mem_cons_of_mem _ (List.mem_cons_of_mem _ (List.mem_cons_of_mem _ (sub p hp)))))
            · have ec : Easy y₃ := by
                obtain ⟨p, hp, he⟩ := lookP_mem hf
                rw [← he]
                exact (hea p hp).1
              have lc : (quoted y₃).length ≤ 12 := by rw [quoted_len]; exact Nat.add_le_add_right ec.size 2
              refine DictIs.notin1 H7 (by k_asm) (List.mem_cons_of_mem _ (List.mem_cons_of_mem _ List.mem_cons_self)) hf ?_
              k_steps
              refine DictIs.item H7 (by k_asm) (List.mem_cons_of_mem _ (List.mem_cons_of_mem _ List.mem_cons_self)) hf fun _ => ?_
              k_steps
              refine Stop.on ?_
              refine Tell.use (compat_tells y₂ y₃ _ _) (by k_asm) (by k_asm) (by k_asm) (by k_asm) (by k_asm) rfl (by ktr_unf; ktr_room) (by ktr_unf; ktr_units) trivial ?_
              rintro _ t6 h6 tk6 F6 N6 ⟨rfl, rfl⟩
              rw [List.nil_append] at N6
              k_steps
              · rename (compat _ _ = true) => hcf
                refine endW1 (by k_asm) (newsTail (by k_asm)) lI ⟨⟨List.mem_cons_of_mem _ List.mem_cons_self, trivial⟩, rfl, vs₁, ps₁, pre ++ [(some nm₂, y₂)], rfl, hps₁, ?_, rfl, hbn.trans (badName_ok hf hcf)⟩
                rw [List.append_assoc]
                exact hpre
              · refine DictIs.item H7 (by k_asm) (List.mem_cons_of_mem _ (List.mem_cons_of_mem _ List.mem_cons_self)) hf fun _ => ?_
                k_steps
                rename_i R' U'
                rename (compat _ _ = false) => hcf
                refine exc _ _ _ _ _ _ _ ((valid3 hmix hmixb).trans (hbn.trans (badName_bad hf hcf))) (by k_asm) U' (raisedK_sub R' fun p hp => ?_)
                exact List.mem_cons_of_mem _ (List.mem_append_right _ (List.mem_cons_of_mem _ (List.mem_cons_of_mem _ (List.mem_cons_of_mem _ (sub p hp)))))
      all_goals (
        have lqs := hpy.bound
        have ll2 := q2.length
        obtain ⟨b, v2, rfl⟩ : ∃ b v2, vs2 = .ref b :: v2 := by cases q2; exact ⟨_, _, rfl⟩
        rw [List.length_cons, List.length_cons] at ll2
        rw [List.length_cons] at lqs
        dsimp only [posOf, Option.isNone_none, Option.isNone_some] at F3 N3 ⊢)
      · k_steps
        rename_i R' U'
        exact exc _ _ _ _ _ _ _ ((valid3 hmix hmixb).trans rfl) (by k_asm) U' (raisedK_sub R' fun p hp => List.mem_cons_of_mem _ (List.mem_cons_of_mem _ (sub p hp)))
      · k_steps

        refine Stop.on ?_
        have hb := modules_low (Top.nolimit (by assumption))
        refine dict_K rfl (by k_asm) (by k_asm) hb (List.mem_cons_of_mem _ List.mem_cons_self) (q1.mono fun p hp => List.mem_cons_of_mem _ (List.mem_cons_of_mem _ hp)) (named_of hmix rfl) (by rw [List.length_cons]; omega) fun h7 d o tk7 F7 N7 H7 => ?_
        k_steps
        refine Stop.on ?_
        rename_i I lI
        refine rest_inv (fun xs M n => n = (d, o) :: (a2, ({ cls := .type "list", data := .seq _ k2 } : Obj)) :: (a1, ({ cls := .type "list", data := .seq (Value.ref a :: v1).toArray k1 } : Obj)) :: objs ∧ ∃ vs' qs' pre, xs = vs'.map .val ∧ PairsAt objs vs' qs' ∧ _ = pre ++ qs' ∧ M "type_map" = some (.ref d) ∧ badName (lookP ((some nm, c) :: ps)) _ = badName (lookP ((some nm, c) :: ps)) qs') ?_ ?_ _ _ _ ⟨rfl, _, _, [], rfl, q2, rfl, rfl, rfl⟩
        · rintro M n h₂ tk₂ ⟨rfl, vs', qs', pre, hxs, hqs', hpre, hM, hbn⟩ F₂ N₂
          cases hqs' with
          | cons _ _ => cases hxs
          | nil =>
            k_steps
            rename_i kF kN _ _
            exact ret _ [] _ _ kF (fun p hp => kN p (List.mem_cons_of_mem _ (List.mem_cons_of_mem _ (List.mem_cons_of_mem _ (sub p hp))))) ⟨(valid3 hmix hmixb).trans hbn, rfl⟩
        · rintro a r M n v h₂ tk₂ ⟨rfl, vs', qs', pre, hxs, hqs', hpre, hM, hbn⟩ hv F₂
          rw [canon1 M "type_map", hM] at F₂
          cases hqs' with
          | nil => cases hxs
          | @cons a₁ p t1 t2 vs₁ ps₁ hm hps₁ =>
            rw [List.map_cons] at hxs
            obtain ⟨rfl, rfl⟩ := List.cons.inj hxs
            obtain rfl : v = .ref a₁ := hv
            refine AllObj.cons fun oi hc => AllObj.nil fun N₂ => ?_
            have N₃ := newsAdd N₂ (List.mem_cons_of_mem _ (List.mem_cons_of_mem _ (List.mem_cons_of_mem _ (List.mem_cons_of_mem _ hm))))
            clear N₂
            obtain ⟨nm₂, y₂⟩ := p
            rcases nm₂ with _ | nm₂
            · exact absurd (named_of hmixb rfl (none, y₂) (by have h := List.mem_append_right pre (List.mem_cons_self (a := ((none, y₂) : Pair)) (l := ps₁)); rw [← hpre] at h; exact h)) (by simp)
            dsimp only [tup2, nameV] at N₃
            have E₂ := heb (some nm₂, y₂) (by have h := List.mem_append_right pre (List.mem_cons_self (a := ((some nm₂, y₂) : Pair)) (l := ps₁)); rw [← hpre] at h; exact h)
            have ea := E₂.1
            have eb := E₂.2 nm₂ rfl
            clear E₂
            dsimp only at ea eb
            have la : (quoted y₂).length ≤ 12 := by rw [quoted_len]; exact Nat.add_le_add_right ea.size 2
            have lb : (quoted nm₂).length ≤ 12 := by rw [quoted_len]; exact Nat.add_le_add_right eb.size 2
            k_steps
            rcases hf : lookP ((some nm, c) :: ps) nm₂ with _ | y₃
            · refine DictIs.notin0 H7 (by k_asm) (List.mem_cons_of_mem _ (List.mem_cons_of_mem _ List.mem_cons_self)) hf ?_
              k_steps
              rename_i R' U'
              refine exc _ _ _ _ _ _ _ ((valid3 hmix hmixb).trans (hbn.trans (badName_none hf))) (by k_asm) U' (raisedK_sub R' fun p hp => ?_)
              exact List.mem_cons_of_mem _ (List.mem_append_right _ (List.mem_cons_of_mem _ (List.mem_cons_of_mem _ (List.mem_cons_of_mem _ (sub p hp)))))
            · have ec : Easy y₃ := by
                obtain ⟨p, hp, he⟩ := lookP_mem hf
                rw [← he]
                exact (hea p hp).1
              have lc : (quoted y₃).length ≤ 12 := by rw [quoted_len]; exact Nat.add_le_add_right ec.size 2
              refine DictIs.notin1 H7 (by k_asm) (List.mem_cons_of_mem _ (List.mem_cons_of_mem _ List.mem_cons_self)) hf ?_
              k_steps
              refine DictIs.item H7 (by k_asm) (List.mem_cons_of_mem _ (List.mem_cons_of_mem _ List.mem_cons_self)) hf fun _ => ?_
              k_steps
              refine Stop.on ?_
              refine Tell.use (compat_tells y₂ y₃ _ _) (by k_asm) (by k_asm) (by k_asm) (by k_asm) (by k_asm) rfl (by ktr_unf; ktr_room) (by ktr_unf; ktr_units) trivial ?_
              rintro _ t6 h6 tk6 F6 N6 ⟨rfl, rfl⟩
              rw [List.nil_append] at N6
              k_steps
              · rename (compat _ _ = true) => hcf
                refine endW1 (by k_asm) (newsTail (by k_asm)) lI ⟨⟨List.mem_cons_of_mem _ List.mem_cons_self, trivial⟩, rfl, vs₁, ps₁, pre ++ [(some nm₂, y₂)], rfl, hps₁, ?_, rfl, hbn.trans (badName_ok hf hcf)⟩
                rw [List.append_assoc]
                exact hpre
              · refine DictIs.item H7 (by k_asm) (List.mem_cons_of_mem _ (List.mem_cons_of_mem _ List.mem_cons_self)) hf fun _ => ?_
                k_steps
                rename_i R' U'
                rename (compat _ _ = false) => hcf
                refine exc _ _ _ _ _ _ _ ((valid3 hmix hmixb).trans (hbn.trans (badName_bad hf hcf))) (by k_asm) U' (raisedK_sub R' fun p hp => ?_)
                exact List.mem_cons_of_mem _ (List.mem_append_right _ (List.mem_cons_of_mem _ (List.mem_cons_of_mem _ (List.mem_cons_of_mem _ (sub p hp)))))
end
end Mine
end
section
open PySem PySem.W PyProof.Rows
set_option maxRecDepth 100000
set_option maxHeartbeats 8000000
namespace Mine.L3
open PySem.Calls PyProof.V PySem.Spec LCg

abbrev lstO (vs : List Value) (k : Nat) : Obj := { cls := .type "list", data := .seq vs.toArray k }
abbrev tupO (vs : List Value) (k : Nat) : Obj := { cls := .type "tuple", data := .seq vs.toArray k }

/-- how the walk of one element ends -/
def End3 (h₀ : Heap) (L : Addr) (m : Str → Option Value) (front news : List (Addr × Obj)) (C : Addr) (J : Value → List (Addr × Obj) → Prop) (s : Shared) (y : Value) (s₄ : Shared) : Prop :=
  ∃ h' tk ex, s₄ = { s with heap := h', toks := tk } ∧ Fr h₀ L h' m ∧ News h₀ L h' (front ++ (ex ++ news)) ∧ (∀ p ∈ ex, C < p.1) ∧ J y ex

/-- a comprehension over a list of triples -/
def Src3 (prog : Program) (w : World) (A : Around) (h₀ : Heap) (L : Addr) (m : Str → Option Value) (env : Env) (elt : Expr) (x1 x2 x3 : Str) (scope : Scope) (cl : List (Str × Addr)) (Q : Value → Shared → Prop) (xv : Value) (s₁ : Shared) : Prop :=
  ∃ (ax : Addr) (its : List Value) (k : Nat) (news : List (Addr × Obj)) (J : Nat → List Value → List (Addr × Obj) → Prop),
    xv = .ref ax ∧ A.handled = none ∧ Fr h₀ L s₁.heap m ∧ News h₀ L s₁.heap news ∧ (ax, lstO its k) ∈ news ∧ its.length ≤ sizeLine ∧ J 0 [] [] ∧
    (∀ (i : Nat) (v : Value) (ys : List Value) (ex : List (Addr × Obj)), its[i]? = some v → J i ys ex → ∃ (t : Addr) (n : Nat) (v1 v2 v3 : Value), v = .ref t ∧ (t, tupO [v1, v2, v3] n) ∈ news ∧
      ∀ (I : Addr) (oI : Obj) (C : Addr) (oC : Obj) (D : Addr) (m₂ : Str → Option Value) (h : Heap) (tk : Nat) (E' : Value → Shared → Prop), NsObj oC m₂ → m₂ x1 = some v1 → m₂ x2 = some v2 → m₂ x3 = some v3 → Fr h₀ L h m →
        News h₀ L h ([(I, oI), (C, oC), (D, lst ys)] ++ (ex ++ news)) → (∀ p ∈ ex, C < p.1) → (∀ p ∈ news, p.1 < I) → (@LT.lt Nat _ I D) → (@LT.lt Nat _ D C) → 
        wpAny (model prog w) A (eval elt (compEnvC scope cl C env)) (End3 h₀ L m [(I, oI), (C, oC), (D, lst ys)] news C (fun y ex' => J (i + 1) (ys ++ [y]) ex') { s₁ with heap := h, toks := tk }) E' { s₁ with heap := h, toks := tk }) ∧
    ∀ (D : Addr) (ys : List Value) (ex : List (Addr × Obj)) (h : Heap) (tk : Nat), J its.length ys ex → Fr h₀ L h m → News h₀ L h ((D, lst ys) :: (ex ++ news)) → (∀ p ∈ news, p.1 < D) → (∀ p ∈ ex, D < p.1) → Q (.ref D) { s₁ with heap := h, toks := tk }

section
variable {prog : Program} {w : World} {A : Around} {E : Value → Shared → Prop} {s : Shared} {h₀ : Heap} {L : Addr} {m : Str → Option Value} {env : Env}
theorem comp3 {elt iter : Expr} {x1 x2 x3 : Str} {p1 p2 p3 tp : Pos} {tk} {scope : Scope} {cl : List (Str × Addr)} {pos : Pos} {Q : Value → Shared → Prop} (_F₀ : Fr h₀ L s.heap m)
    (hclos : closureFor scope env = pure cl) (hcell : ∀ y ∈ scope.names, y.2 ≠ .cell) (hkind : scope.kind = .function)
    (hnames : ∀ y ∈ scope.names, y.2 = .local → scope.names.lookup y.1 = some .local) (hx1 : scope.names.lookup x1 = some .local) (hx2 : scope.names.lookup x2 = some .local) (hx3 : scope.names.lookup x3 = some .local)
    (d12 : x1 ≠ x2) (d13 : x1 ≠ x3) (d23 : x2 ≠ x3)
    (h : wpAny (model prog w) A (eval iter env) (Src3 prog w A h₀ L m env elt x1 x2 x3 scope cl Q) E s)
    (hs : ∀ x, foldedSetIterable iter env x = pure x := by intro _; rfl) :
    wpAny (model prog w) A (eval (.ListComp elt [⟨.Tuple [.Name x1 p1, .Name x2 p2, .Name x3 p3] tk tp, iter, [], 0⟩] scope pos) env) Q E s := by
  rw [eval_ListComp]
  refine wpAny_comprehension_free (use := none) rfl hs hclos hkind hnames (wpAny_mono h (fun xv s₁ h₁ => ?_) fun _ _ e => e)
  obtain ⟨ax, its, k, news, J, rfl, hh, F, N, hm, hsz, hJ0, step, done⟩ := h₁
  have hl : s₁.heap.IsList ax its.toArray := ⟨_, (N _ hm).1, rfl, k, rfl⟩
  refine wpAny_pyIter_list hl ?_
  -- the three new objects
  generalize hI : s₁.heap.objs.size = I
  have hI1 : (s₁.heap.push { cls := .type "list_iterator", data := .fields #[.ref ax, .int 0 0] }).objs.size = I + 1 := by rw [Heap.size_push, hI]
  refine wpAny_newObj_type (wpAny_newFunctionEnv hcell (by intro y hy; simp at hy) (fun h₁ hns₁ hsb₁ => ?_) hkind)
  dsimp only at hns₁ hsb₁ ⊢
  rw [hI1]
  have hI2 : ((s₁.heap.push { cls := .type "list_iterator", data := .fields #[.ref ax, .int 0 0] }).push { cls := .type "list", dict := none, data := .seq ([] : List Value).toArray }).objs.size = I + 2 := by rw [Heap.size_push, hI1]
  rw [hI2] at hns₁ hsb₁ ⊢
  have ltI : ∀ p ∈ news, p.1 < I := fun p hp => hI ▸ Heap.lt_size (N p hp).1
  have hLI : L < I := hI ▸ F.ns.lt
  have new₀ : ∀ b : Nat, I ≤ b → h₀.get? b = none := fun b hb => ktu_new F (by rw [hI]; exact hb)
  have ne2 : ∀ b : Nat, b < I + 2 → b ≠ I + 2 := fun b hb => Nat.ne_of_lt hb
  have old : ∀ b o, s₁.heap.get? b = some o → h₁.get? b = some o := fun b o e => by
    have hb : b < I := hI ▸ Heap.lt_size e
    refine hsb₁.extBut b o (ne2 b (Nat.lt_of_lt_of_le hb (Nat.le_add_right _ _))) (Heap.get?_push_of_some _ (Heap.get?_push_of_some _ (Heap.get?_push_of_some _ e)))
  have gI : h₁.get? I = some { cls := .type "list_iterator", data := .fields #[.ref ax, .int 0 0] } := by
    refine hsb₁.extBut I _ (ne2 I (by omega)) (Heap.get?_push_of_some _ (Heap.get?_push_of_some _ ?_))
    rw [← hI]; exact Heap.get?_push_size _ rfl
  have gD : h₁.get? (I + 1) = some (lst []) := by
    refine hsb₁.extBut (I + 1) _ (ne2 (I + 1) (by omega)) (Heap.get?_push_of_some _ ?_)
    rw [← hI1]; exact Heap.get?_push_size _ rfl
  have F₁ : Fr h₀ L h₁ m := F.keeps old
  have N₁ : News h₀ L h₁ news := N.grown old
  clear hsb₁
  have neL : ∀ b : Nat, I ≤ b → b ≠ L := fun b hb => Nat.ne_of_gt (Nat.lt_of_lt_of_le hLI hb)
  have W := Walks.list (prog := prog) (w := w) (A := A) hh I ax (Nat.ne_of_lt (ltI _ hm)) its.toArray
  have loop : ∀ s₃ : Shared, s₃ = { s₁ with heap := h₁, toks := s₁.toks + ([] : List (Str × Value)).length } →
      codeAny (model prog w) A (.compLoop (.ListComp elt [⟨.Tuple [.Name x1 p1, .Name x2 p2, .Name x3 p3] tk tp, iter, [], 0⟩] scope pos) 0 (.ref I) (.ref (I + 1)) (compEnvC scope cl (I + 2) env))
        (compPost (model prog w) A E none Q (.ref (I + 1)) (I + 2)) s₃ := by
    rintro s₃ rfl
    refine LCp.codeAny_compLoop_pair
      (fun kk s' => ∃ h' tk i ys m' ex, s' = { s₁ with heap := h', toks := tk } ∧ i ≤ its.length ∧ kk = its.length + 1 - i ∧ ys.length = i ∧ h'.IsListIter I ax i ∧ Fr h₀ L h' m ∧ h'.Ns (I + 2) m' ∧ News h₀ L h' ((I + 1, lst ys) :: (ex ++ news)) ∧ (∀ p ∈ ex, I + 2 < p.1) ∧ J i ys ex) ?_ (its.length + 1)
      ⟨h₁, _, 0, [], _, [], rfl, Nat.zero_le _, rfl, rfl, ⟨_, gI, rfl, rfl⟩, F₁, hns₁, fun p hp => ?_, (fun p hp => nomatch hp), hJ0⟩
    · rintro kk s' ⟨h', tk', i, ys, m', ex, rfl, hi, rfl, hyl, hit, F', hn', N', hex, hJ⟩
      have hlist : h'.IsList ax its.toArray := ⟨_, (N' _ (List.mem_cons_of_mem _ (List.mem_append_right _ hm))).1, rfl, k, rfl⟩
      have offI : ∀ p ∈ (I + 1, lst ys) :: (ex ++ news), p.1 ≠ I := fun p hp => by
        rcases List.mem_cons.mp hp with rfl | hp
        · exact Nat.ne_of_gt (Nat.lt_succ_self I)
        · rcases List.mem_append.mp hp with hp | hp
          · exact Nat.ne_of_gt (Nat.lt_of_le_of_lt (Nat.le_add_right I 2) (hex p hp))
          · exact Nat.ne_of_lt (ltI p hp)
      have offC : ∀ p ∈ (I + 1, lst ys) :: (ex ++ news), p.1 ≠ I + 2 := fun p hp => by
        rcases List.mem_cons.mp hp with rfl | hp
        · exact Nat.ne_of_lt (Nat.lt_succ_self (I + 1))
        · rcases List.mem_append.mp hp with hp | hp
          · exact Nat.ne_of_gt (hex p hp)
          · exact ne2 _ (Nat.lt_of_lt_of_le (ltI p hp) (Nat.le_add_right _ _))
      by_cases hlt : i < its.length
      · refine W.item i _ _ _ (by simpa using hlt) ⟨hit, hlist⟩ fun v h₂ tk₂ hPv hst₂ hk₂ => ?_
        obtain ⟨t, nt, v1, v2, v3, rfl, hmt, S⟩ := step i v ys ex (by simpa using hPv) hJ
        have F₂ := fr_but F' hk₂ (Ne.symm (neL I (Nat.le_refl _))) (new₀ I (Nat.le_refl _))
        have N₂ := news_but N' hk₂ offI
        have hn₂ := hn'.at' fun o e => hk₂ _ o (by simp) e
        refine wpAny_letOwnedTupleGo_listiter hst₂.1 ?_
        refine assign_Tuple_tuple hh (items := #[v1, v2, v3]) ⟨_, (N₂ _ (List.mem_cons_of_mem _ (List.mem_append_right _ hmt))).1, rfl, nt, rfl⟩ rfl rfl fun h₃ he => ?_
        have he' : ∀ b o, h₂.get? b = some o → h₃.get? b = some o := fun b o e => he b o (Nat.ne_of_lt (Heap.lt_size e)) e
        refine assignInOrder_cons (wpAny_assign_Name (wpAny_storeName_local (lookup_relabel_local hx1) (hn₂.at' fun o e => he' _ o e) (fun h₄ hn₄ hs₄ => ?_) (by simp [compEnvC, relabel, hkind])))
        refine assignInOrder_cons (wpAny_assign_Name (wpAny_storeName_local (lookup_relabel_local hx2) hn₄ (fun h₅ hn₅ hs₅ => ?_) (by simp [compEnvC, relabel, hkind])))
        refine assignInOrder_cons (wpAny_assign_Name (wpAny_storeName_local (lookup_relabel_local hx3) hn₅ (fun h₆ hn₆ hs₆ => ?_) (by simp [compEnvC, relabel, hkind])))
        refine assignInOrder_nil ?_
        have up : ∀ b o, b ≠ I + 2 → h₂.get? b = some o → h₆.get? b = some o := fun b o hb e => hs₆.extBut b o hb (hs₅.extBut b o hb (hs₄.extBut b o hb (he' b o e)))
        obtain ⟨oC, heC, hoC⟩ := ns_obj hn₆
        obtain ⟨oI, heI, hoI⟩ := hst₂.1
        have cL := neL (I + 2) (Nat.le_add_right _ _)
        have c₀ := new₀ (I + 2) (Nat.le_add_right _ _)
        have F₆ : Fr h₀ L h₆ m := (((F₂.keeps he').change hs₄ cL c₀).change hs₅ cL c₀).change hs₆ cL c₀
        have N₆ : News h₀ L h₆ ([(I, oI), (I + 2, oC), (I + 1, lst ys)] ++ (ex ++ news)) := fun p hp => by
          rcases List.mem_cons.mp hp with rfl | hp
          · exact ⟨up _ _ (ne2 I (by omega)) heI, neL I (Nat.le_refl _), new₀ I (Nat.le_refl _)⟩
          rcases List.mem_cons.mp hp with rfl | hp
          · exact ⟨heC, cL, c₀⟩
          exact ⟨up _ _ (offC p hp) (N₂ p hp).1, (N₂ p hp).2⟩
        refine wpAny_mono (S I oI (I + 2) oC (I + 1) _ h₆ _ _ hoC (by simp [d12, d13]) (by simp [d23]) (by simp) F₆ N₆ hex ltI (Nat.lt_succ_self I) (Nat.lt_succ_self (I + 1))) (fun y s₄ h₄ => ?_) fun _ _ e => e
        obtain ⟨h₇, tk₇, ex₇, rfl, F₇, N₇, hex₇, hJ₇⟩ := h₄
        have zD := (N₇ (I + 1, lst ys) (List.mem_cons_of_mem _ (List.mem_cons_of_mem _ List.mem_cons_self))).1
        have zC := (N₇ (I + 2, oC) (List.mem_cons_of_mem _ List.mem_cons_self)).1
        have zI := (N₇ (I, oI) List.mem_cons_self).1
        refine append_at (hsz := by show ys.toArray.size ≤ sizeLine; rw [List.size_toArray, hyl]; exact Nat.le_trans hi hsz) zD fun h₈ hs₈ hD₈ => ?_
        have nD : ∀ b : Nat, b ≠ I + 1 → ∀ o, h₇.get? b = some o → h₈.get? b = some o := fun b hb o e => hs₈.extBut b o hb e
        refine ⟨its.length + 1 - (i + 1), by omega, h₈, tk₇, i + 1, ys ++ [y], _, ex₇, rfl, hlt, rfl, by rw [List.length_append, List.length_singleton, hyl], ⟨oI, nD I (by omega) _ zI, hoI⟩, F₇.change hs₈ (neL (I + 1) (Nat.le_add_right _ _)) (new₀ (I + 1) (Nat.le_add_right _ _)),
          (hoC.ns zC).sameBut hs₈ (Nat.ne_of_gt (Nat.lt_succ_self (I + 1))), fun p hp => ?_, hex₇, hJ₇⟩
        rcases List.mem_cons.mp hp with rfl | hp
        · exact ⟨hD₈.trans (congrArg some (lst_snoc ys y)), neL (I + 1) (Nat.le_add_right _ _), new₀ (I + 1) (Nat.le_add_right _ _)⟩
        · have z := N₇ p (List.mem_append_right [(I, oI), (I + 2, oC), (I + 1, lst ys)] hp)
          refine ⟨nD _ ?_ _ z.1, z.2⟩
          rcases List.mem_append.mp hp with hp | hp
          · exact Nat.ne_of_gt (Nat.lt_trans (Nat.lt_succ_self (I + 1)) (hex₇ p hp))
          · exact Nat.ne_of_lt (Nat.lt_succ_of_lt (ltI p hp))
      · obtain rfl : i = its.length := Nat.le_antisymm hi (Nat.not_lt.mp hlt)
        refine W.done _ _ _ (by simpa using (⟨hit, hlist⟩ : h'.IsListIter I ax its.length ∧ h'.IsList ax its.toArray)) fun h₂ tk₂ hk₂ => ?_
        have F₂ := fr_but F' hk₂ (Ne.symm (neL I (Nat.le_refl _))) (new₀ I (Nat.le_refl _))
        have N₂ := news_but N' hk₂ offI
        refine ⟨_, hn'.at' fun o e => hk₂ _ o (by simp) e, fun h'' hs'' => done (I + 1) ys ex h'' _ hJ (F₂.change hs'' (neL (I + 2) (Nat.le_add_right _ _)) (new₀ (I + 2) (Nat.le_add_right _ _))) (fun p hp => ⟨hs''.extBut _ _ (offC p hp) (N₂ p hp).1, (N₂ p hp).2⟩) (fun p hp => Nat.lt_succ_of_lt (ltI p hp)) fun p hp => Nat.lt_trans (Nat.lt_succ_self (I + 1)) (hex p hp)⟩
    · rcases List.mem_cons.mp hp with rfl | hp
      · exact ⟨gD, neL (I + 1) (Nat.le_add_right _ _), new₀ (I + 1) (Nat.le_add_right _ _)⟩
      · exact N₁ p hp
  exact codeAny_compStart_list (loop _ rfl) (W.self 0 _ _ _ ⟨⟨_, gI, rfl, rfl⟩, ⟨_, (N₁ _ hm).1, rfl, k, rfl⟩⟩ (loop _ rfl))
end
end Mine.L3
end
section
open PySem PySem.W PyProof.Rows
set_option maxRecDepth 100000
set_option maxHeartbeats 8000000
namespace Mine
open PySem.Calls PyProof.V PySem.Spec

structure Row where
  num : Int
  name : Option Str
  letter : Str
def rowO (r : Row) (t1 t2 t3 : Tok) : Obj := { cls := .type "tuple", data := .seq #[.int r.num t1, nameV r.name t2, .str r.letter t3] }
inductive RowsAt (news : List (Addr × Obj)) : List Value → List Row → Prop
  | nil : RowsAt news [] []
  | cons {a : Addr} {r : Row} {t1 t2 t3 : Tok} {vs : List Value} {rs : List Row} : (a, rowO r t1 t2 t3) ∈ news → RowsAt news vs rs → RowsAt news (.ref a :: vs) (r :: rs)
theorem RowsAt.mono {news news' : List (Addr × Obj)} {vs : List Value} {rs : List Row} (h : RowsAt news vs rs) (l : ∀ p ∈ news, p ∈ news') : RowsAt news' vs rs := by
  induction h with
  | nil => exact .nil
  | cons hm _ ih => exact .cons (l _ hm) ih
theorem RowsAt.snoc {news : List (Addr × Obj)} {vs : List Value} {rs : List Row} (h : RowsAt news vs rs) {a : Addr} {r : Row} {t1 t2 t3 : Tok} (hm : (a, rowO r t1 t2 t3) ∈ news) : RowsAt news (vs ++ [.ref a]) (rs ++ [r]) := by
  induction h with
  | nil => exact .cons hm .nil
  | cons hm' _ ih => exact .cons hm' ih
theorem RowsAt.length {news : List (Addr × Obj)} {vs : List Value} {rs : List Row} (h : RowsAt news vs rs) : vs.length = rs.length := by
  induction h with
  | nil => rfl
  | cons _ _ ih => simp [ih]
theorem RowsAt.get {news : List (Addr × Obj)} {vs : List Value} {rs : List Row} (h : RowsAt news vs rs) : ∀ {i : Nat} {x : Value}, vs[i]? = some x → ∃ a r t1 t2 t3, x = .ref a ∧ rs[i]? = some r ∧ (a, rowO r t1 t2 t3) ∈ news := by
  induction h with
  | nil => intro i x hx; simp at hx
  | @cons a r t1 t2 t3 vs rs hm _ ih =>
    intro i x hx
    cases i with
    | zero =>
      rw [List.getElem?_cons_zero] at hx ⊢
      exact ⟨a, r, t1, t2, t3, (Option.some.inj hx).symm, rfl, hm⟩
    | succ i =>
      rw [List.getElem?_cons_succ] at hx ⊢
      exact ih hx
def rowText (r : Row) : Str := textOf r.num r.name r.letter
def joinedOf (rs : List Row) (btw : Str) : Str := Str.ofString "a" ++ Txt.join btw (rs.map rowText) ++ Str.ofString " z"
structure RowFits (r : Row) : Prop where
  num : 0 ≤ r.num
  letter : r.letter.length ≤ 100
  name : ∀ n, r.name = some n → n.length ≤ 100

theorem menu_len {ws : List Str} {i : Int} (h : ∀ x ∈ ws, x.length ≤ 2) : (menu ws i).length ≤ 2 := by
  unfold menu
  rw [List.getD_eq_getElem?_getD]
  cases hx : ws[i.toNat]? with
  | none => exact Nat.zero_le _
  | some x => exact h x (List.mem_of_getElem? hx)
theorem rowText_len {r : Row} (h : RowFits r) : (rowText r).length ≤ 300 := by
  have hd : (headOf r.name).length ≤ 103 := by
    unfold headOf
    cases hn : r.name with
    | none => decide
    | some n =>
      have := h.name n hn
      dsimp only
      rw [strLen_append, strLen_append]
      show 2 + n.length + 1 ≤ 103
      omega
  have l1 := menu_len (ws := ["", "-", "0", "+", " ", "#"]) (i := r.num.fmod 6) (by decide)
  have l2 := menu_len (ws := ["", "5", "*", "12"]) (i := (r.num.fdiv 6).fmod 4) (by decide)
  have l3 := menu_len (ws := ["", ".2", ".*"]) (i := (r.num.fdiv 24).fmod 3) (by decide)
  have l4 := menu_len (ws := ["", "l", "h"]) (i := (r.num.fdiv 72).fmod 3) (by decide)
  have l5 := h.letter
  unfold rowText textOf
  rw [strLen_append, strLen_append, strLen_append, strLen_append, strLen_append]
  omega
theorem texts_sum {rs : List Row} (h : ∀ r ∈ rs, RowFits r) : ((rs.map rowText).map (·.length)).sum ≤ rs.length * 300 := by
  induction rs with
  | nil => exact Nat.zero_le _
  | cons r rs ih =>
    have h1 := rowText_len (h r List.mem_cons_self)
    have h2 := ih fun q hq => h q (List.mem_cons_of_mem _ hq)
    rw [List.map_cons, List.map_cons, List.sum_cons, List.length_cons]
    omega

theorem strs_snoc {vs : List Value} {ys : List Str} (h : StrsAre vs ys) {y : Str} {t : Tok} : StrsAre (vs ++ [.str y t]) (ys ++ [y]) := by
  induction h with
  | nil => exact .cons _ _ .nil
  | cons _ _ _ ih => exact .cons _ _ ih
theorem joined_len {rs : List Row} {btw : Str} (h : ∀ r ∈ rs, RowFits r) (hl : rs.length ≤ 100) (hb : btw.length ≤ 100) : (Txt.join btw (rs.map rowText)).length ≤ 40000 := by
  show (Builtin.Str.glued btw (rs.map rowText)).length ≤ _
  rw [StrLaws.glued_eq_join]
  cases rs with
  | nil => exact Nat.zero_le _
  | cons r rs =>
    have hsum := texts_sum h
    rw [List.map_cons, len_join_cons, ← List.map_cons (f := rowText), List.length_map]
    have hprod : rs.length * btw.length ≤ 100 * 100 := Nat.mul_le_mul (by rw [List.length_cons] at hl; omega) hb
    omega
local macro_rules | `(tactic| walk_at "eval ListComp") => `(tactic| refine Stop.of ?_)
local macro_rules | `(tactic| walk_at "call ref") => `(tactic| refine Stop.of ?_)
local macro_rules | `(tactic| walk_at "call builtin:str.join") => `(tactic| refine Stop.of ?_)

section
variable {w : World} {mg mb : Str → Option Value} {mean : ExcName → Option Value}
theorem joined_tells (l : Addr) (vs : List Value) (k : Nat) (rs : List Row) (btw : Str) (tb : Tok) : Tell w mg mb mean 40 400 100 [.ref l, .str btw tb]
    (fun _ news => (l, ({ cls := .type "list", data := .seq vs.toArray k } : Obj)) ∈ news ∧ RowsAt news vs rs ∧ (∀ r ∈ rs, RowFits r) ∧ rs.length ≤ 100 ∧ btw.length ≤ 100)
    (fun tl r => tl = [] ∧ ∃ t, r = .str (joinedOf rs btw) t) := by
  k_with_none
  w_top off
  unfold Tell
  intro dp un gd cn cs a ccd cl outer A₀ base h₀ L m news s Q E B F X N T hk hd hu hP ret
  obtain ⟨hl, hrs, hfit, hlen, hbtw⟩ := hP
  have hvl := hrs.length
  revert X; k_fill; intro X
  refine wpAny_call ?_
  k_dflt ktr_enter
  k_steps
  refine Stop.on ?_
  refine L3.comp3 (by k_asm) (by with_unfolding_all rfl) (by decide) (by rfl) (by decide) (by rfl) (by rfl) (by rfl) (by decide) (by decide) (by decide) ?_
  k_steps
  refine ⟨l, vs, k, news, fun i ys ex => ex = [] ∧ StrsAre ys ((rs.take i).map rowText), rfl, rfl, by k_asm, by k_asm, hl, Nat.le_trans (by omega : vs.length ≤ 100) (by decide), ⟨rfl, ?_⟩, ?_, ?_⟩
  · rw [List.take_zero]; exact .nil
  · rintro i v ys ex hv ⟨rfl, hys⟩
    obtain ⟨t, r, t1, t2, t3, rfl, hr, hm⟩ := hrs.get hv
    refine ⟨t, 0, _, _, _, rfl, hm, ?_⟩
    intro I oI C oC D m₂ h tk E' hC e1 e2 e3 F₂ N₂ _ ltI hID hDC
    k_steps
    refine Stop.on ?_
    have hf := hfit r (List.mem_of_getElem? hr)
    refine Tell.use (text_tells r.num r.name r.letter t1 t2 t3) (by k_asm) (by k_asm) (by k_asm) (by k_asm) (by k_asm) rfl (by ktr_unf; ktr_room) (by ktr_unf; ktr_units) ⟨hf.num, hf.letter, hf.name⟩ ?_
    rintro _ tl3 h3 tk3 F3 N3 ⟨rfl, t', rfl⟩
    rw [List.nil_append] at N3
    k_steps
    refine ⟨h3, tk3, [], rfl, F3, N3, (fun _ hp => nomatch hp), rfl, ?_⟩
    rw [List.take_add_one, hr, List.map_append]
    exact strs_snoc hys
  · rintro D ys ex h tk ⟨rfl, hys⟩ F₂ N₂ _ _
    k_steps
    refine Stop.on ?_
    have hall : rs.take vs.length = rs := by rw [hvl]; exact List.take_length
    rw [hall] at hys
    have hsum := texts_sum hfit
    have hprod : rs.length * btw.length ≤ 100 * 100 := Nat.mul_le_mul hlen hbtw
    refine join_list (News.isList N₂ List.mem_cons_self) hys ?_ fun _ _ => ?_
    · rw [List.length_map]; omega
    have hj := joined_len hfit hlen hbtw
    k_steps
    rename_i kF kN _ _
    exact ret _ [] _ _ kF (newsTail kN) ⟨rfl, _, rfl⟩
end
end Mine
end
section
open PySem PySem.W PyProof.Rows
set_option maxRecDepth 100000
set_option maxHeartbeats 8000000
namespace Mine
open PySem.Calls PyProof.V PySem.Spec

section
variable {prog : Program} {w : World} {A : Around} {E : Value → Shared → Prop} {s : Shared} {env : Env} {h₀ : Heap} {x : Str} {body : List Stmt} {Q : Flow → Shared → Prop}
theorem unrPost_mono {L : Addr} {s₁ : Shared} {I : Addr} {it : Obj} {rest rest' : (Str → Option Value) → List (Addr × Obj) → Prop} {f : Flow} {s₂ : Shared} (h : UnrPost h₀ L s₁ I it rest Q f s₂) (l : ∀ m n, rest m n → rest' m n) : UnrPost h₀ L s₁ I it rest' Q f s₂ := by
  cases f with
  | ret v => exact h
  | brk => exact h
  | next => obtain ⟨h', tk, m', n', e, F, N, o, r⟩ := h; exact ⟨h', tk, m', n', e, F, N, o, l _ _ r⟩
  | cont => obtain ⟨h', tk, m', n', e, F, N, o, r⟩ := h; exact ⟨h', tk, m', n', e, F, N, o, l _ _ r⟩
/-- a loop over a range by what holds ahead of each turn -/
theorem range_inv {I : Addr} {a : Int} {n : Nat} (J : Nat → (Str → Option Value) → List (Addr × Obj) → Prop)
    (zero : ∀ M news h tk, J n M news → Fr h₀ env.locals h M → News h₀ env.locals h news → Q .next { s with heap := h, toks := tk })
    (step : ∀ i M news t h tk it, i < n → it.cls = .type "range_iterator" → J i M news → Fr h₀ env.locals h (fun y => if y = x then some (.int (a + (i : Int)) t) else M y) → News h₀ env.locals h ((I, it) :: news) →
      wpAny (model prog w) A (execs body env) (UnrPost h₀ env.locals { s with heap := h, toks := tk } I it (J (i + 1)) Q) E { s with heap := h, toks := tk }) :
    ∀ (k i : Nat) (M : Str → Option Value) (news : List (Addr × Obj)), k + i = n → J i M news → RangeRest prog w A E h₀ env x body Q s I a n k i M news
  | 0, i, M, news, e, j => fun h tk F N => by
    rw [Nat.zero_add] at e
    exact zero M news h tk (e ▸ j) F N
  | k + 1, i, M, news, e, j => fun t h tk F N => wpAny_mono (step i M news t h tk _ (by omega) rfl j F N) (fun f s₃ h₃ => unrPost_mono h₃ fun m n p => range_inv J zero step k (i + 1) m n (by omega) p) fun _ _ e => e
end

section
variable {prog : Program} {w : World} {A : Around} {E : Value → Shared → Prop} {s : Shared}
theorem append_row {h₀ : Heap} {L r D : Addr} {m : Str → Option Value} {ws : List Value} {n : Nat} {all front : List (Addr × Obj)} {row : Obj} {objs : List (Addr × Obj)} {Q : Value → Shared → Prop} (F : Fr h₀ L s.heap m)
    (N : News h₀ L s.heap all) (hr : (r, ({ cls := .type "list", data := .seq ws.toArray n } : Obj)) ∈ all) (hD : (D, row) ∈ all) (hf : ∀ p ∈ front, p ∈ all) (ho : ∀ p ∈ objs, p ∈ all) (neD : D ≠ r) (nef : ∀ p ∈ front, p.1 ≠ r) (neo : ∀ p ∈ objs, p.1 ≠ r) (hl : ws.length ≤ 100000)
    (h : ∀ h', Fr h₀ L h' m → News h₀ L h' (front ++ (r, { cls := .type "list", data := .seq (ws ++ [Value.ref D]).toArray (n + 1) }) :: (D, row) :: objs) → Q .none { s with heap := h' }) :
    wpAny (model prog w) A (call (.builtin "list.append") [.ref r, .ref D]) Q E s := by
  refine append_top (n := n) (rest := (D, row) :: (front ++ objs)) F (fun p hp => ?_) (fun p hp => ?_) hl fun h' F' N' => h h' F' fun p hp => N' p ?_
  · rcases List.mem_cons.mp hp with rfl | hp
    · exact N _ hr
    rcases List.mem_cons.mp hp with rfl | hp
    · exact N _ hD
    rcases List.mem_append.mp hp with hp | hp
    · exact N _ (hf p hp)
    · exact N _ (ho p hp)
  · rcases List.mem_cons.mp hp with rfl | hp
    · exact neD
    rcases List.mem_append.mp hp with hp | hp
    · exact nef p hp
    · exact neo p hp
  · rcases List.mem_append.mp hp with hp | hp
    · exact List.mem_cons_of_mem _ (List.mem_cons_of_mem _ (List.mem_append_left _ hp))
    rcases List.mem_cons.mp hp with rfl | hp
    · exact List.mem_cons_self
    rcases List.mem_cons.mp hp with rfl | hp
    · exact List.mem_cons_of_mem _ List.mem_cons_self
    · exact List.mem_cons_of_mem _ (List.mem_cons_of_mem _ (List.mem_append_right _ hp))
end
theorem canon2 (M : Str → Option Value) (a b : Str) : M = fun y => if y = a then M a else if y = b then M b else M y := by
  funext y
  by_cases h1 : y = a
  · rw [if_pos h1, h1]
  · rw [if_neg h1]
    by_cases h2 : y = b
    · rw [if_pos h2, h2]
    · rw [if_neg h2]
local macro_rules | `(tactic| walk_at "exec For Name Call cons nil") => `(tactic| (k_here; (rename Fr _ _ _ _ => lF'); (with_unfolding_all refine' For_invVF lF' ?k1 ?k2 ?_; (case k1 => exact rfl); (case k2 => exact rfl); k_whole)))
local macro_rules | `(tactic| walk_at "pyIter ref") => `(tactic| ((with_reducible show wpAny _ _ (pyIter (Value.ref _)) (fun it s₂ => LoopAtV _ _ _ _ _ _ _ _ _ it s₂) _ _); refine Stop.of ?_))
local macro_rules | `(tactic| walk_at "eval Call") => `(tactic| (k_here; k_dflt (refine Call_ ?_)))
local macro_rules | `(tactic| walk_at "call type:range") => `(tactic| refine Stop.of ?_)
local macro_rules | `(tactic| walk_at "call ref") => `(tactic| refine Stop.of ?_)

section
variable {w : World} {mg mb : Str → Option Value} {mean : ExcName → Option Value}
def kindOf (ns : List Int) : Int := (cellOf ns 0).fmod 4
def letterAt (i : Int) : Str := Txt.item (Str.ofString "diouxXeEfFgGcrs") i
def rowFrom (kd c : Int) : Row where
  num := c.fdiv 90
  name := if kd = 2 ∨ (kd = 3 ∧ (c.fdiv 45).fmod 2 = 1) then some (menu ["n", "of", "x_1"] (c.fmod 3)) else none
  letter := letterAt ((c.fdiv 3).fmod 15)
def firstOf (ns : List Int) (n : Nat) : List Row := (List.range n).map fun (i : Nat) => rowFrom (kindOf ns) (cellOf ns (2 + 2 * (i : Int)))
def nOf (ns : List Int) : Nat := (1 + (cellOf ns 1).fmod 4).toNat
theorem rowFrom_some {kd c : Int} (h : kd = 2 ∨ (kd = 3 ∧ (c.fdiv 45).fmod 2 = 1)) : rowFrom kd c = ⟨c.fdiv 90, some (menu ["n", "of", "x_1"] (c.fmod 3)), letterAt ((c.fdiv 3).fmod 15)⟩ := by
  unfold rowFrom; rw [if_pos h]
theorem rowFrom_none {kd c : Int} (h : ¬ (kd = 2 ∨ (kd = 3 ∧ (c.fdiv 45).fmod 2 = 1))) : rowFrom kd c = ⟨c.fdiv 90, none, letterAt ((c.fdiv 3).fmod 15)⟩ := by
  unfold rowFrom; rw [if_neg h]
theorem firstOf_succ (ns : List Int) (n : Nat) : firstOf ns (n + 1) = firstOf ns n ++ [rowFrom (kindOf ns) (cellOf ns (2 + 2 * (n : Int)))] := by
  unfold firstOf
  rw [List.range_succ, List.map_append]; rfl
theorem first_tells (sl : Addr) (ns : List Int) : Tell w mg mb mean 40 400 107 [.ref sl] (fun base _ => ns.length ≤ 63 ∧ ∃ vs, base.IsList sl vs.toArray ∧ IntsAre vs ns)
    (fun tl r => ∃ a vs k, r = .ref a ∧ (a, ({ cls := .type "list", data := .seq vs.toArray k } : Obj)) ∈ tl ∧ RowsAt tl vs (firstOf ns (nOf ns))) := by
  k_with_none
  w_top off
  unfold Tell
  intro dp un gd cn cs a ccd cl outer A₀ base h₀ L m news s Q E B F X N T hk hd hu hP ret
  obtain ⟨hlen, vs, hl, hi⟩ := hP
  revert X; k_fill; intro X
  refine wpAny_call ?_
  k_dflt ktr_enter
  k_steps
  refine Stop.on ?_
  refine Tell.use (cell_tells sl ns 0 _) (by k_asm) (by k_asm) (by k_asm) (by k_asm) (by k_asm) rfl (by ktr_unf; ktr_room) (by ktr_unf; ktr_units) ⟨by omega, by omega, hlen, vs, hl, hi⟩ ?_
  rintro _ tl1 h1 tk1 F1 N1 ⟨rfl, t', rfl⟩
  rw [List.nil_append] at N1
  k_steps
  refine Stop.on ?_
  refine Tell.use (cell_tells sl ns 1 _) (by k_asm) (by k_asm) (by k_asm) (by k_asm) (by k_asm) rfl (by ktr_unf; ktr_room) (by ktr_unf; ktr_units) ⟨by omega, by omega, hlen, vs, hl, hi⟩ ?_
  rintro _ tl2 h2 tk2 F2 N2 ⟨rfl, t2, rfl⟩
  rw [List.nil_append] at N2
  k_steps
  refine Stop.on ?_
  obtain ⟨n, hn, hn4⟩ : ∃ n : Nat, 1 + (cellOf ns 1).fmod 4 = (n : Int) ∧ n ≤ 4 := by
    have h0 := fmod_lo (cellOf ns 1) (n := 4) (by decide)
    have h1 := fmod_hi (cellOf ns 1) (n := 4) (by decide)
    exact ⟨(1 + (cellOf ns 1).fmod 4).toNat, by omega, by omega⟩
  rw [hn]
  refine range1_rows (by k_asm) (by k_asm) fun h3 tk3 t₁ u₁ v₁ hr F3 N3 hk3 => ?_
  rename ∀ p ∈ news, _ => lr
  k_steps
  refine Stop.on ?_
  replace N3 := newsTail N3
  refine iter_rangeUnr (n := n) rfl hr ?_ ?_ F3 N3 fun I lI => ?_
  · have : n = 0 ∨ n = 1 ∨ n = 2 ∨ n = 3 ∨ n = 4 := by omega
    rcases this with rfl | rfl | rfl | rfl | rfl <;> decide
  · rw [rangeSize_nat]; omega
  refine range_inv (fun i M nws => ∃ (ws : List Value) (k : Nat) (objs : List (Addr × Obj)) (t : Tok), M "script" = some (.ref sl) ∧ ws.length = i ∧ M "rows" = some (.ref _) ∧ M "kind" = some (.int (kindOf ns) t) ∧ nws = (_, ({ cls := .type "list", data := .seq ws.toArray k } : Obj)) :: objs ∧ (∀ p ∈ objs, p.1 ≠ _) ∧ (∀ p ∈ objs, p.1 ≠ I) ∧ (∀ p ∈ news, p ∈ objs) ∧ RowsAt objs ws (firstOf ns i)) ?_ ?_ n 0 _ _ rfl ⟨[], 0, news, _, rfl, rfl, rfl, rfl, rfl, fun p hp => Nat.ne_of_lt (lr p hp), fun p hp => Nat.ne_of_lt (lI p (List.mem_cons_of_mem _ hp)), fun p hp => hp, .nil⟩
  · rintro M nws h4 tk4 ⟨ws, k, objs, t, e0, hwl, e1, e2, rfl, hoff, hoI, hin, hrows⟩ F4 N4
    rw [canon3 M "rows" "kind" "script", e1, e2, e0] at F4
    k_steps
    rename_i kF kN _ _
    have kN' := kN
    refine ret _ ((_, ({ cls := .type "list", data := .seq ws.toArray k } : Obj)) :: objs) _ _ kF (fun p hp => ?_) ⟨_, ws, k, rfl, List.mem_cons_self, ?_⟩
    · rcases List.mem_append.mp hp with hp | hp
      · exact kN p hp
      · exact kN p (List.mem_cons_of_mem _ (hin p hp))
    · have : nOf ns = n := by unfold nOf; rw [hn]; rfl
      rw [this]
      exact hrows.mono fun p hp => List.mem_cons_of_mem _ hp
  · rintro i M nws t₄ h4 tk4 it hi4 hit ⟨ws, k, objs, t, e0, hwl, e1, e2, rfl, hoff, hoI, hin, hrows⟩ F4 N4
    rw [canon3 M "rows" "kind" "script", e1, e2, e0] at F4
    simp only [Int.zero_add] at F4
    k_steps
    refine Stop.on ?_
    refine Tell.use (cell_tells sl ns (2 + 2 * (i : Int)) _) (by k_asm) (by k_asm) (by k_asm) (by k_asm) (by k_asm) rfl (by ktr_unf; ktr_room) (by ktr_unf; ktr_units) ⟨by omega, by omega, hlen, vs, hl, hi⟩ ?_
    rintro _ tl5 h5 tk5 F5 N5 ⟨rfl, t5, rfl⟩
    rw [List.nil_append] at N5
    k_with "table" => skip
    k_steps
    all_goals (first | contradiction | skip)
    all_goals (
      rename_i D' hD' FD ND lD
      have lrI := lI _ List.mem_cons_self
      refine append_row (ws := ws) (n := k) (front := [(I, it)]) (objs := objs) FD ND (by simp) List.mem_cons_self (by simp) (fun p hp => by simp [hp]) ?_ ?_ hoff (by omega) fun h6 F6 N6 => ?_
      · obtain ⟨_, h⟩ := lD
        first | exact Nat.ne_of_gt h.1 | exact Nat.ne_of_gt h.2.1
      · intro p hp
        rw [List.mem_singleton.mp hp]
        exact Nat.ne_of_gt lrI
      k_steps
      have lDI : D' ≠ I := Nat.ne_of_gt (by first | exact lD.1 | exact lD.2.1)
      refine ⟨h6, _, _, _, rfl, F6, N6, ?_, ws ++ [.ref D'], k + 1, (D', _) :: objs, t, rfl, ?_, rfl, rfl, rfl, ?_, ?_, fun p hp => List.mem_cons_of_mem _ (hin p hp), ?_⟩
      · intro p hp
        rcases List.mem_cons.mp hp with rfl | hp
        · exact Nat.ne_of_lt lrI
        rcases List.mem_cons.mp hp with rfl | hp
        · exact lDI
        · exact hoI p hp
      · rw [List.length_append, hwl]; rfl
      · intro p hp
        rcases List.mem_cons.mp hp with rfl | hp
        · first | exact Nat.ne_of_gt lD.2.1 | exact Nat.ne_of_gt lD.2.2.1
        · exact hoff p hp
      · intro p hp
        rcases List.mem_cons.mp hp with rfl | hp
        · exact lDI
        · exact hoI p hp
      · rw [firstOf_succ]
        first
          | (rw [rowFrom_some (by first | exact Or.inl (by assumption) | exact Or.inr ⟨by assumption, by assumption⟩)]
             exact RowsAt.snoc (hrows.mono fun p hp => List.mem_cons_of_mem _ hp) List.mem_cons_self)
          | (rw [rowFrom_none (by rintro (h | ⟨h, h'⟩) <;> contradiction)]
             exact RowsAt.snoc (t2 := 0) (hrows.mono fun p hp => List.mem_cons_of_mem _ hp) List.mem_cons_self))
end
end Mine
end
section
open PySem PySem.W PyProof.Rows
set_option maxRecDepth 100000
set_option maxHeartbeats 8000000
namespace Mine
open PySem.Calls PyProof.V PySem.Spec

theorem find_letter {j : Nat} (h : j < 15) : Txt.find (Str.ofString "diouxXeEfFgGcrs") (letterAt j) = (j : Int) := by
  have : ∀ j : Fin 15, Txt.find (Str.ofString "diouxXeEfFgGcrs") (letterAt (j.val : Int)) = (j.val : Int) := by decide +kernel
  exact this ⟨j, h⟩
def shiftOf (way : Int) : Int := ([0, 0, 1, 2, 0] : List Int).getD way.toNat 0
def midRow (way : Int) (r : Row) : Row := ⟨r.num + way, r.name, letterAt ((Txt.find (Str.ofString "diouxXeEfFgGcrs") r.letter + shiftOf way).fmod 15)⟩
def midOf (ns : List Int) : Nat → List Row → List Row
  | _, [] => []
  | i, r :: rs => if (cellOf ns (3 + 2 * (i : Int))).fmod 6 < 5 then midRow ((cellOf ns (3 + 2 * (i : Int))).fmod 6) r :: midOf ns (i + 1) rs else midOf ns (i + 1) rs
theorem endW2 {h₀ h' : Heap} {L i j : Addr} {o p : Obj} {news' : List (Addr × Obj)} {rest : (Str → Option Value) → List (Addr × Obj) → Prop} {s₁ : Shared} {tk : Nat} {m' : Str → Option Value}
    (F : Fr h₀ L h' m') (N : News h₀ L h' ((i, o) :: (j, p) :: news')) (l : ∀ q ∈ news', q.1 ≠ i ∧ q.1 ≠ j) (r : rest m' news') : UnrEndW h₀ L s₁ [(i, o), (j, p)] rest { s₁ with heap := h', toks := tk } :=
  ⟨h', tk, m', news', rfl, F, N, fun q hq z hz => by
    rcases List.mem_cons.mp hz with rfl | hz
    · exact (l q hq).1
    · rw [List.mem_singleton.mp hz]; exact (l q hq).2, r⟩
theorem RowsAt.append {news : List (Addr × Obj)} {vs us : List Value} {rs qs : List Row} (h : RowsAt news vs rs) (h' : RowsAt news us qs) : RowsAt news (vs ++ us) (rs ++ qs) := by
  induction h with
  | nil => exact h'
  | cons hm _ ih => exact .cons hm ih
theorem RowsAt.reverse {news : List (Addr × Obj)} {vs : List Value} {rs : List Row} (h : RowsAt news vs rs) : RowsAt news vs.reverse rs.reverse := by
  induction h with
  | nil => exact .nil
  | cons hm _ ih =>
    rw [List.reverse_cons, List.reverse_cons]
    exact ih.append (.cons hm .nil)
theorem newsBoth {h₀ h : Heap} {L : Addr} {all news : List (Addr × Obj)} (N : News h₀ L h all) (l : ∀ p ∈ news, p ∈ all) : News h₀ L h (all ++ news) := fun p hp => by
  rcases List.mem_append.mp hp with hp | hp
  · exact N p hp
  · exact N p (l p hp)
def lastRow (kd : Int) : Row := ⟨kd.fdiv 15, ([some "n", none, some "m"] : List (Option Str)).getD ((kd.fdiv 15).fmod 3).toNat none, letterAt ((kd.fdiv 45).fmod 15)⟩
def turned (kd : Int) (rs : List Row) : List Row := if kd.fmod 3 = 1 then rs.reverse else rs
def grown (kd : Int) (rs : List Row) : List Row := if (kd.fdiv 3).fmod 5 = 1 then rs ++ [lastRow kd] else rs
def secondOf (ns : List Int) (rs : List Row) : List Row := grown ((cellOf ns 0).fdiv 4) (turned ((cellOf ns 0).fdiv 4) (midOf ns 0 rs))
theorem turned_y {kd : Int} {rs : List Row} (h : kd.fmod 3 = 1) : turned kd rs = rs.reverse := if_pos h
theorem turned_n {kd : Int} {rs : List Row} (h : ¬ kd.fmod 3 = 1) : turned kd rs = rs := if_neg h
theorem grown_y {kd : Int} {rs : List Row} (h : (kd.fdiv 3).fmod 5 = 1) : grown kd rs = rs ++ [lastRow kd] := if_pos h
theorem grown_n {kd : Int} {rs : List Row} (h : ¬ (kd.fdiv 3).fmod 5 = 1) : grown kd rs = rs := if_neg h
local macro_rules | `(tactic| walk_at "subscriptTail Name Slice ref ref") => `(tactic| (k_here; k_dflt (refine' krv_lit ?F ?N ?l ?k ?e ?_ ?s ?t ?z; (case F => k_asm); (case N => k_asm); (case l => exact News.isList (by k_asm) List.mem_cons_self); (case k => exact IsPart.int _ _); (case e => exact rfl); (case s => with_unfolding_all rfl); (case t => intro _; with_unfolding_all rfl); (case z => (rw [List.size_toArray]; refine Nat.le_trans (m := 100) ?_ (by decide); omega)))))
local macro_rules | `(tactic| walk_at "exec For Tuple Call cons nil") => `(tactic| (k_here; (rename Fr _ _ _ _ => lF'); (with_unfolding_all refine' For_turns lF' ?_; k_whole)))
local macro_rules | `(tactic| walk_at "call type:enumerate") => `(tactic| refine Stop.of ?_)
local macro_rules | `(tactic| walk_at "ItemsRest") => `(tactic| refine Stop.of ?_)
local macro_rules | `(tactic| walk_at "eval Call") => `(tactic| (k_here; k_dflt (refine Call_ ?_)))
local macro_rules | `(tactic| walk_at "call ref") => `(tactic| refine Stop.of ?_)

section
variable {w : World} {mg mb : Str → Option Value} {mean : ExcName → Option Value}
theorem second_tells (sl l : Addr) (ns : List Int) (ws : List Value) (k : Nat) (rs : List Row) : Tell w mg mb mean 40 400 114 [.ref sl, .ref l]
    (fun base news => (l, ({ cls := .type "list", data := .seq ws.toArray k } : Obj)) ∈ news ∧ RowsAt news ws rs ∧ rs.length ≤ 4 ∧ (∀ r ∈ rs, 0 ≤ r.num ∧ ∃ j : Nat, j < 15 ∧ r.letter = letterAt j) ∧ ns.length ≤ 63 ∧ ∃ vs, base.IsList sl vs.toArray ∧ IntsAre vs ns)
    (fun tl r => ∃ a vs k, r = .ref a ∧ (a, ({ cls := .type "list", data := .seq vs.toArray k } : Obj)) ∈ tl ∧ RowsAt tl vs (secondOf ns rs)) := by
  k_with_none
  w_top off
  unfold Tell
  intro dp un gd cn cs a ccd cl outer A₀ base h₀ L m news s Q E B F X N T hk hd hu hP ret
  obtain ⟨hm, hrs, hlen4, hok, hlen, vs, hl, hi⟩ := hP
  have hwl := hrs.length
  revert X; k_fill; intro X
  refine wpAny_call ?_
  k_dflt ktr_enter
  k_steps
  refine Stop.on ?_
  refine Tell.use (cell_tells sl ns 0 _) (by k_asm) (by k_asm) (by k_asm) (by k_asm) (by k_asm) rfl (by ktr_unf; ktr_room) (by ktr_unf; ktr_units) ⟨by omega, by omega, hlen, vs, hl, hi⟩ ?_
  rintro _ tl1 h1 tk1 F1 N1 ⟨rfl, t', rfl⟩
  rw [List.nil_append] at N1
  k_steps
  refine Stop.on ?_
  rename ∀ p ∈ news, _ => lr
  refine ktu_enum rfl (by k_asm) (newsTail (by k_asm)) (List.mem_cons_of_mem _ hm) rfl rfl rfl fun I lI => ?_
  refine rest_inv (fun xs M nws => ∃ (i : Nat) (ws' : List Value) (rs' acc : List Row) (fs : List Value) (kk : Nat) (objs : List (Addr × Obj)) (t : Tok), xs = enumItems i ws' ∧ RowsAt news ws' rs' ∧ (∀ r ∈ rs', r ∈ rs) ∧ i + rs'.length = rs.length ∧ fs.length ≤ i ∧
    M "found" = some (.ref _) ∧ M "kind" = some (.int ((cellOf ns 0).fdiv 4) t) ∧ M "script" = some (.ref sl) ∧ nws = (_, ({ cls := .type "list", data := .seq fs.toArray kk } : Obj)) :: objs ∧ (∀ p ∈ objs, p.1 ≠ _) ∧ (∀ p ∈ objs, p.1 ≠ I ∧ p.1 ≠ I + 1) ∧ (∀ p ∈ news, p ∈ objs) ∧ RowsAt objs fs acc ∧ acc ++ midOf ns i rs' = midOf ns 0 rs) ?_ ?_ _ _ _
    ⟨0, ws, rs, [], [], 0, news, _, rfl, hrs, fun _ h => h, Nat.zero_add _, Nat.le_refl _, rfl, rfl, rfl, rfl, fun p hp => Nat.ne_of_lt (lr p hp), fun p hp => ⟨Nat.ne_of_lt (lI p (List.mem_cons_of_mem _ hp)), Nat.ne_of_lt (Nat.lt_succ_of_lt (lI p (List.mem_cons_of_mem _ hp)))⟩, fun p hp => hp, .nil, rfl⟩
  · rintro M nws h2 tk2 ⟨i, ws', rs', acc, fs, kk, objs, t, hxs, hrs', hsub, hil, hfl, e1, e2, e3, rfl, hoff, hoI, hin, hacc, hmid⟩ F2 N2
    rw [canon3 M "found" "kind" "script", e1, e2, e3] at F2
    cases hrs' with
    | cons _ _ => cases hxs
    | nil =>
      rw [midOf, List.append_nil] at hmid
      k_steps
      rotate_left
      · rename_i kF kN _ _
        refine ret _ ((_, ({ cls := .type "list", data := .seq fs.reverse.toArray 0 } : Obj)) :: objs) _ _ kF (fun p hp => ?_) ⟨_, fs.reverse, 0, rfl, List.mem_cons_self, ?_⟩
        · rcases List.mem_append.mp hp with hp | hp
          · rcases List.mem_cons.mp hp with rfl | hp
            · exact kN _ List.mem_cons_self
            · exact kN p (by simp [hp])
          · exact kN p (by simp [hin p hp])
        · unfold secondOf
          rw [grown_n (by assumption), turned_y (by assumption), ← hmid]
          exact (hacc.mono fun p hp => List.mem_cons_of_mem _ hp).reverse
      rotate_left
      · rename_i kF kN _ _
        refine ret _ ((_, ({ cls := .type "list", data := .seq fs.toArray kk } : Obj)) :: objs) _ _ kF (fun p hp => ?_) ⟨_, fs, kk, rfl, List.mem_cons_self, ?_⟩
        · rcases List.mem_append.mp hp with hp | hp
          · exact kN p hp
          · exact kN p (by simp [hin p hp])
        · unfold secondOf
          rw [grown_n (by assumption), turned_n (by assumption), ← hmid]
          exact hacc.mono fun p hp => List.mem_cons_of_mem _ hp
      ·
        have h3 : (((cellOf ns 0).fdiv 4).fdiv 15).fmod 3 = 0 ∨ (((cellOf ns 0).fdiv 4).fdiv 15).fmod 3 = 1 ∨ (((cellOf ns 0).fdiv 4).fdiv 15).fmod 3 = 2 := by
          have h0 := fmod_lo (((cellOf ns 0).fdiv 4).fdiv 15) (n := 3) (by decide)
          have h1 := fmod_hi (((cellOf ns 0).fdiv 4).fdiv 15) (n := 3) (by decide)
          omega
        rename ∀ p ∈ (_ :: objs), p.1 < _ => HD
        rcases h3 with h3 | h3 | h3 <;> rw [h3]
        all_goals k_steps
        all_goals (
          rename_i D' hD' FD ND lD
          refine append_row (ws := fs.reverse) (n := 0) (front := []) (objs := objs) FD ND (by simp) List.mem_cons_self (fun _ hp => nomatch hp) (fun p hp => by simp [hp]) (Nat.ne_of_gt lD.2.1) (fun _ hp => nomatch hp) (fun p hp => Nat.ne_of_lt (HD p (by simp [hp]))) (by rw [List.length_reverse]; omega) fun h6 F6 N6 => ?_
          k_steps
          rename_i kF kN _ _
          refine ret _ _ _ _ kF (newsBoth kN fun p hp => List.mem_cons_of_mem _ (List.mem_cons_of_mem _ (hin p hp))) ⟨_, fs.reverse ++ [.ref D'], 0 + 1, rfl, List.mem_cons_self, ?_⟩
          · unfold secondOf
            rw [grown_y (by assumption), turned_y (by assumption), ← hmid]
            have hl : lastRow ((cellOf ns 0).fdiv 4) = ⟨((cellOf ns 0).fdiv 4).fdiv 15, ([some "n", none, some "m"] : List (Option Str)).getD ((((cellOf ns 0).fdiv 4).fdiv 15).fmod 3).toNat none, letterAt ((((cellOf ns 0).fdiv 4).fdiv 45).fmod 15)⟩ := rfl
            rw [hl, h3]
            first
              | exact RowsAt.snoc (hacc.reverse.mono fun p hp => List.mem_cons_of_mem _ (List.mem_cons_of_mem _ hp)) (List.mem_cons_of_mem _ List.mem_cons_self)
              | exact RowsAt.snoc (t2 := 0) (hacc.reverse.mono fun p hp => List.mem_cons_of_mem _ (List.mem_cons_of_mem _ hp)) (List.mem_cons_of_mem _ List.mem_cons_self))
      ·
        have h3 : (((cellOf ns 0).fdiv 4).fdiv 15).fmod 3 = 0 ∨ (((cellOf ns 0).fdiv 4).fdiv 15).fmod 3 = 1 ∨ (((cellOf ns 0).fdiv 4).fdiv 15).fmod 3 = 2 := by
          have h0 := fmod_lo (((cellOf ns 0).fdiv 4).fdiv 15) (n := 3) (by decide)
          have h1 := fmod_hi (((cellOf ns 0).fdiv 4).fdiv 15) (n := 3) (by decide)
          omega
        rcases h3 with h3 | h3 | h3 <;> rw [h3]
        all_goals k_steps
        all_goals (
          rename_i D' hD' FD ND lD
          refine append_row (ws := fs) (n := kk) (front := []) (objs := objs) FD ND (by simp) List.mem_cons_self (fun _ hp => nomatch hp) (fun p hp => by simp [hp]) (Nat.ne_of_gt lD.2.1) (fun _ hp => nomatch hp) hoff (by omega) fun h6 F6 N6 => ?_
          k_steps
          rename_i kF kN _ _
          refine ret _ _ _ _ kF (newsBoth kN fun p hp => List.mem_cons_of_mem _ (List.mem_cons_of_mem _ (hin p hp))) ⟨_, fs ++ [.ref D'], kk + 1, rfl, List.mem_cons_self, ?_⟩
          · unfold secondOf
            rw [grown_y (by assumption), turned_n (by assumption), ← hmid]
            have hl : lastRow ((cellOf ns 0).fdiv 4) = ⟨((cellOf ns 0).fdiv 4).fdiv 15, ([some "n", none, some "m"] : List (Option Str)).getD ((((cellOf ns 0).fdiv 4).fdiv 15).fmod 3).toNat none, letterAt ((((cellOf ns 0).fdiv 4).fdiv 45).fmod 15)⟩ := rfl
            rw [hl, h3]
            first
              | exact RowsAt.snoc (hacc.mono fun p hp => List.mem_cons_of_mem _ (List.mem_cons_of_mem _ hp)) (List.mem_cons_of_mem _ List.mem_cons_self)
              | exact RowsAt.snoc (t2 := 0) (hacc.mono fun p hp => List.mem_cons_of_mem _ (List.mem_cons_of_mem _ hp)) (List.mem_cons_of_mem _ List.mem_cons_self))
  · rintro x r M nws v h2 tk2 ⟨i, ws', rs', acc, fs, kk, objs, t, hxs, hrs', hsub, hil, hfl, e1, e2, e3, rfl, hoff, hoI, hin, hacc, hmid⟩ hv F2
    rw [canon3 M "found" "kind" "script", e1, e2, e3] at F2
    cases hrs' with
    | nil => cases hxs
    | @cons a₁ ro t1 t2 t3 ws₁ rs₁ hm₁ hrs₁ =>
      rw [show enumItems i (Value.ref a₁ :: ws₁) = .pair (fun t => .int (i : Int) t) (.ref a₁) :: enumItems (i + 1) ws₁ from rfl] at hxs
      obtain ⟨rfl, rfl⟩ := List.cons.inj hxs
      obtain ⟨Tt, tt, rfl, hT⟩ := hv
      refine AllObj.cons fun oe hce => AllObj.cons fun oi hci => AllObj.nil fun N3 => ?_
      have N4 := newsAdd N3 (List.mem_append_right _ (List.mem_cons_of_mem _ (hin _ hm₁)))
      clear N3
      obtain ⟨hnum, j, hj, hlet⟩ := hok ro (hsub ro List.mem_cons_self)
      obtain ⟨c, nm, y⟩ := ro
      dsimp only at hnum hlet
      subst hlet
      dsimp only [rowO, List.cons_append, List.nil_append] at N4
      k_steps
      refine Stop.on ?_
      rw [List.length_cons] at hil
      refine Tell.use (cell_tells sl ns (3 + 2 * (i : Int)) _) (by k_asm) (by k_asm) (by k_asm) (by k_asm) (by k_asm) rfl (by ktr_unf; ktr_room) (by ktr_unf; ktr_units) ⟨by omega, by omega, hlen, vs, hl, hi⟩ ?_
      rintro _ tl5 h5 tk5 F5 N5 ⟨rfl, t5, rfl⟩
      rw [List.nil_append] at N5
      k_with "table" => skip
      k_steps
      · rename (Txt.find _ _ = -1) => hfind
        rw [find_letter hj] at hfind
        exact absurd hfind (by omega)
      · rename (_ : Int) < 5 => hway
        rename_i D' hD' FD ND lD
        refine append_row (ws := fs) (n := kk) (front := [(I + 1, oe), (I, oi)]) (objs := objs) FD ND (by simp) List.mem_cons_self (by simp) (fun p hp => by simp [hp]) (Nat.ne_of_gt lD.2.2.2.2.1) ?_ hoff (by omega) fun h6 F6 N6 => ?_
        · intro p hp
          have lfI := lI _ List.mem_cons_self
          rcases List.mem_cons.mp hp with rfl | hp
          · exact Nat.ne_of_gt (Nat.lt_succ_of_lt lfI)
          · rw [List.mem_singleton.mp hp]
            exact Nat.ne_of_gt lfI
        k_steps
        have lfI := lI _ List.mem_cons_self
        refine endW2 F6 N6 ?_ ⟨⟨List.mem_cons_of_mem _ (List.mem_cons_of_mem _ (hin _ hm)), trivial⟩, i + 1, ws₁, rs₁, acc ++ [midRow ((cellOf ns (3 + 2 * (i : Int))).fmod 6) ⟨c, nm, letterAt j⟩], fs ++ [.ref D'], kk + 1, (D', _) :: objs, t, rfl, hrs₁, (fun q hq => hsub q (List.mem_cons_of_mem _ hq)), by omega, ?_, rfl, rfl, rfl, rfl, ?_, ?_, fun p hp => List.mem_cons_of_mem _ (hin p hp), ?_, ?_⟩
        · intro q hq
          rcases List.mem_cons.mp hq with rfl | hq
          · exact ⟨Nat.ne_of_lt (Nat.lt_succ_of_lt lfI), Nat.ne_of_lt lfI⟩
          rcases List.mem_cons.mp hq with rfl | hq
          · exact ⟨Nat.ne_of_gt lD.2.2.1, Nat.ne_of_gt lD.2.2.2.1⟩
          · exact ⟨(hoI q hq).2, (hoI q hq).1⟩
        · rw [List.length_append]; simp only [List.length_singleton]; omega
        · intro q hq
          rcases List.mem_cons.mp hq with rfl | hq
          · exact Nat.ne_of_gt lD.2.2.2.2.1
          · exact hoff q hq
        · intro q hq
          rcases List.mem_cons.mp hq with rfl | hq
          · exact ⟨Nat.ne_of_gt lD.2.2.2.1, Nat.ne_of_gt lD.2.2.1⟩
          · exact hoI q hq
        · exact RowsAt.snoc (r := midRow ((cellOf ns (3 + 2 * (i : Int))).fmod 6) ⟨c, nm, letterAt j⟩) (hacc.mono fun p hp => List.mem_cons_of_mem _ hp) List.mem_cons_self
        · rw [List.append_assoc]
          rw [midOf, if_pos hway] at hmid
          exact hmid
      · rename ¬ (_ : Int) < 5 => hway
        have lfI := lI _ List.mem_cons_self
        refine endW2 (by k_asm) (newsTail (by k_asm)) ?_ ⟨⟨List.mem_cons_of_mem _ (hin _ hm), trivial⟩, i + 1, ws₁, rs₁, acc, fs, kk, objs, t, rfl, hrs₁, (fun q hq => hsub q (List.mem_cons_of_mem _ hq)), by omega, by omega, rfl, rfl, rfl, rfl, hoff, hoI, hin, hacc, ?_⟩
        · intro q hq
          rcases List.mem_cons.mp hq with rfl | hq
          · exact ⟨Nat.ne_of_lt (Nat.lt_succ_of_lt lfI), Nat.ne_of_lt lfI⟩
          · exact ⟨(hoI q hq).2, (hoI q hq).1⟩
        · rw [midOf, if_neg hway] at hmid
          exact hmid
end
end Mine
end
section
open PySem PySem.W PyProof.Rows
set_option maxRecDepth 100000
set_option maxHeartbeats 8000000
namespace Mine.Lt
open PySem.Calls PyProof.V PySem.Spec LCg LCt

section
variable {prog : Program} {w : World} {A : Around} {E : Value → Shared → Prop} {s : Shared} {h₀ : Heap} {L : Addr} {m : Str → Option Value} {env : Env}
/-- a comprehension with a test, by what holds ahead of each turn -/
theorem restT_inv {ct elt : Expr} {x : Str} {scope : Scope} {cl : List (Str × Addr)} {S : List (Addr × Obj) → Prop} {P : Nat → Value → Prop} {Fin : List Value → List (Addr × Obj) → Prop} {n : Nat} (J : Nat → List Value → List (Addr × Obj) → Prop)
    (fin : ∀ ys nw, J n ys nw → Fin ys nw)
    (step : ∀ (i : Nat) (v : Value) (ys : List Value) (nw : List (Addr × Obj)) (I : Addr) (oI : Obj) (C : Addr) (oC : Obj) (D : Addr) (m₂ : Str → Option Value) (h : Heap) (tk : Nat) (E' : Value → Shared → Prop), i < n → P i v → J i ys nw → NsObj oC m₂ → m₂ x = some v → Fr h₀ L h m →
      News h₀ L h ((I, oI) :: (C, oC) :: (D, lst ys) :: nw) → Off3 I C D nw → ((@Ne Nat I C) ∧ (@Ne Nat I D) ∧ (@Ne Nat C D)) →
      wpAny (model prog w) A (isTrue ct (compEnvC scope cl C env) (eval ct (compEnvC scope cl C env))) (fun ok s' => if ok = true then
        wpAny (model prog w) A (eval elt (compEnvC scope cl C env)) (CompEnd h₀ L m { s with heap := h, toks := tk } I oI C oC D (lst ys) S (fun y nw' => J (i + 1) (ys ++ [y]) nw')) E' s'
        else CompEnd h₀ L m { s with heap := h, toks := tk } I oI C oC D (lst ys) S (fun _ nw' => J (i + 1) ys nw') Value.none s') E' { s with heap := h, toks := tk }) :
    ∀ (k i : Nat) (ys : List Value) (nw : List (Addr × Obj)), k + i = n → J i ys nw → CompRestT prog w A h₀ L m env ct elt x scope cl s S P Fin k i ys nw
  | 0, i, ys, nw, e, j => by
    rw [Nat.zero_add] at e
    exact fin ys nw (e ▸ j)
  | k + 1, i, ys, nw, e, j => fun v I oI C oC D m₂ h tk E' hv hC hx F N off ne => by
    refine wpAny_mono (step i v ys nw I oI C oC D m₂ h tk E' (by omega) hv j hC hx F N off ne) (fun ok s' h' => ?_) fun _ _ e => e
    by_cases hok : ok = true
    · rw [if_pos hok] at h' ⊢
      refine wpAny_mono h' (fun y s₄ h₄ => ?_) fun _ _ e => e
      obtain ⟨h5, tk5, nw5, e5, F5, N5, o5, S5, j5⟩ := h₄
      exact ⟨h5, tk5, nw5, e5, F5, N5, o5, S5, restT_inv J fin step k (i + 1) _ nw5 (by omega) j5⟩
    · rw [if_neg hok] at h' ⊢
      obtain ⟨h5, tk5, nw5, e5, F5, N5, o5, S5, j5⟩ := h'
      exact ⟨h5, tk5, nw5, e5, F5, N5, o5, S5, restT_inv J fin step k (i + 1) _ nw5 (by omega) j5⟩

/-- a tuple as the source -/
def SrcTup (prog : Program) (w : World) (A : Around) (h₀ : Heap) (L : Addr) (m : Str → Option Value) (env : Env) (ct elt : Expr) (x : Str) (scope : Scope) (cl : List (Str × Addr)) (Q : Value → Shared → Prop) (xv : Value) (s₁ : Shared) : Prop :=
  ∃ (ax : Addr) (its : Array Value) (k : Nat) (news : List (Addr × Obj)), xv = .ref ax ∧ A.handled = none ∧ Fr h₀ L s₁.heap m ∧ News h₀ L s₁.heap news ∧ (ax, ({ cls := .type "tuple", data := .seq its k } : Obj)) ∈ news ∧ its.size ≤ sizeLine ∧
    ∀ g, CompRestT prog w A h₀ L m env ct elt x scope cl { s₁ with heap := g } (fun nw => (ax, ({ cls := .type "tuple", data := .seq its k } : Obj)) ∈ nw) (fun i v => its[i]? = some v) (FinE h₀ L m { s₁ with heap := g } Q) its.size 0 [] news

theorem tup_st {ax I : Addr} {its : Array Value} {k : Nat} : ∀ i (h h' : Heap) (o : Obj) (nw : List (Addr × Obj)), (h.IsTupleIter I ax i ∧ h.IsTuple ax its) → h.get? I = some o → h'.get? I = some o → (∀ b o, h₀.get? b = some o → h'.get? b = some o) → News h₀ L h' nw → (ax, ({ cls := .type "tuple", data := .seq its k } : Obj)) ∈ nw → (h'.IsTupleIter I ax i ∧ h'.IsTuple ax its) :=
  fun i h h' o nw st e e' _ N hm => ⟨by obtain ⟨o', q, r⟩ := st.1; rw [e] at q; cases q; exact ⟨o, e', r⟩, ⟨_, (N _ hm).1, rfl, k, rfl⟩⟩

theorem ListComp_tup {ct elt iter : Expr} {x : Str} {px : Pos} {scope : Scope} {cl : List (Str × Addr)} {pos : Pos} {Q : Value → Shared → Prop} (_F₀ : Fr h₀ L s.heap m)
    (hclos : closureFor scope env = pure cl) (hcell : ∀ y ∈ scope.names, y.2 ≠ .cell) (hkind : scope.kind = .function)
    (hnames : ∀ y ∈ scope.names, y.2 = .local → scope.names.lookup y.1 = some .local) (hx : scope.names.lookup x = some .local)
    (h : wpAny (model prog w) A (eval iter env) (SrcTup prog w A h₀ L m env ct elt x scope cl Q) E s)
    (hs : ∀ x, foldedSetIterable iter env x = pure x := by intro _; rfl) :
    wpAny (model prog w) A (eval (.ListComp elt [⟨.Name x px, iter, [ct], 0⟩] scope pos) env) Q E s := by
  rw [eval_ListComp]
  refine wpAny_comprehension_free (use := none) rfl hs hclos hkind hnames (wpAny_mono h (fun xv s₁ h₁ => ?_) fun _ _ e => e)
  obtain ⟨ax, its, k, news, rfl, hh, F, N, hm, hsz, R⟩ := h₁
  have hl : s₁.heap.IsTuple ax its := ⟨_, (N _ hm).1, rfl, k, rfl⟩
  have hlt : ax < s₁.heap.objs.size := Heap.lt_size (N _ hm).1
  refine wpAny_pyIter_tuple hl ?_
  have up : ∀ b o, s₁.heap.get? b = some o → (s₁.heap.push { cls := .type "tuple_iterator", data := .fields #[.ref ax, .int 0 0] }).get? b = some o := fun b o e => Heap.get?_push_of_some _ e
  refine block_T (Walks.tuple hh s₁.heap.objs.size ax (Nat.ne_of_lt hlt) its) hsz (fun i h st => by obtain ⟨o, e, _⟩ := st.1; exact ⟨o, e⟩) tup_st hcell hkind hx ⟨⟨_, Heap.get?_push_size _ rfl, rfl, rfl⟩, hl.at fun o e => up _ o e⟩ (fun b hb => ?_)
    (F.keeps up) (N.grown up) (Nat.ne_of_lt F.ns.lt) (next_is_new F) (fun p hp => Nat.ne_of_lt (Heap.lt_size (N p hp).1)) hm (R _) ?_
  · show b < (s₁.heap.push _).objs.size
    rw [Heap.size_push]
    rcases List.mem_cons.mp hb with rfl | hb
    · exact Nat.lt_succ_self _
    · rw [List.mem_singleton.mp hb]; exact Nat.lt_succ_of_lt hlt
  · intro D C h tk m' ys news' F' N' o1 hn hC₀ hD₀ hCL hDL hCD offC fin
    refine ⟨m', hn, fun h'' hs'' => fin D h'' tk (F'.change hs'' hCL hC₀) (fun p hp => ?_) o1⟩
    refine ⟨hs''.extBut _ _ ?_ (N' p hp).1, (N' p hp).2⟩
    rcases List.mem_cons.mp hp with rfl | hp
    · exact Ne.symm hCD
    · exact offC p hp
end
end Mine.Lt
end
section
open PySem PySem.W PyProof.Rows
set_option maxRecDepth 100000
set_option maxHeartbeats 800000
namespace Mine
open PySem.Calls PyProof.V PySem.Spec

section
variable {prog : Program} {w : World} {A : Around} {E : Value → Shared → Prop} {s : Shared}
theorem eq_nil {l b : Addr} {vs : List Value} {Q : Value → Shared → Prop} (hl : s.heap.IsList l vs.toArray) (hb : s.heap.IsList b #[]) (hu : A.units < cLine)
    (h : Q (.bool vs.isEmpty) s) : wpAny (model prog w) A (compareOp .Eq (.ref l) (.ref b)) Q E s := by
  cases vs with
  | nil => exact SeqAt.eq_listAt (e := fun _ => true) hl hb rfl hu (fun j h1 _ => absurd h1 (Nat.not_lt_zero _)) h
  | cons v r => exact SeqAt.eq_list_lengthsAt hl hb (by simp) hu h
theorem ne_nil {l b : Addr} {vs : List Value} {Q : Value → Shared → Prop} (hl : s.heap.IsList l vs.toArray) (hb : s.heap.IsList b #[]) (hu : A.units < cLine)
    (h : Q (.bool (!vs.isEmpty)) s) : wpAny (model prog w) A (compareOp .NotEq (.ref l) (.ref b)) Q E s := by
  cases vs with
  | nil => exact SeqAt.RcNeAt.lists (e := fun _ => true) hl hb rfl hu (fun j h1 _ => absurd h1 (Nat.not_lt_zero _)) prog w E Q h
  | cons v r => exact SeqAt.RcNeAt.lists_lengths hl hb (by simp) hu prog w E Q h
theorem eq_nil1 {l b : Addr} {v : Value} {vs : List Value} {Q : Value → Shared → Prop} (hl : s.heap.IsList l (v :: vs).toArray) (hb : s.heap.IsList b #[]) (hu : A.units < cLine)
    (h : Q (.bool false) s) : wpAny (model prog w) A (compareOp .Eq (.ref l) (.ref b)) Q E s := eq_nil hl hb hu h
theorem eq_nil0 {l b : Addr} {Q : Value → Shared → Prop} (hl : s.heap.IsList l #[]) (hb : s.heap.IsList b #[]) (hu : A.units < cLine)
    (h : Q (.bool true) s) : wpAny (model prog w) A (compareOp .Eq (.ref l) (.ref b)) Q E s := eq_nil (vs := []) hl hb hu h
theorem ne_nil1 {l b : Addr} {v : Value} {vs : List Value} {Q : Value → Shared → Prop} (hl : s.heap.IsList l (v :: vs).toArray) (hb : s.heap.IsList b #[]) (hu : A.units < cLine)
    (h : Q (.bool true) s) : wpAny (model prog w) A (compareOp .NotEq (.ref l) (.ref b)) Q E s := ne_nil hl hb hu h
theorem ne_nil0 {l b : Addr} {Q : Value → Shared → Prop} (hl : s.heap.IsList l #[]) (hb : s.heap.IsList b #[]) (hu : A.units < cLine)
    (h : Q (.bool false) s) : wpAny (model prog w) A (compareOp .NotEq (.ref l) (.ref b)) Q E s := ne_nil (vs := []) hl hb hu h
theorem item_list {value slice : PySem.Expr} {l : Addr} {vs : List Value} {k : Nat} {u : Tok} {v : Value} {Q : Value → Shared → Prop}
    (hl : s.heap.IsList l vs.toArray) (hhi : k < 2 ^ 62) (hx : vs[k]? = some v) (h : Q v s)
    (hs : subscripted slice false (.ref l) (.int (k : Int) u) = operate [.ref l, .int (k : Int) u] (getItem (.ref l) (.int (k : Int) u)) := by with_unfolding_all rfl) :
    wpAny (model prog w) A (subscriptTail value slice (.ref l) (.int (k : Int) u)) Q E s :=
  tail_any hl.typeIs slot_list_getitem.lookup (wpAny_getItem_list hl (Int.natCast_nonneg k) (by have : ((2 ^ 62 : Nat) : Int) = 4611686018427387904 := by decide
                                                                                                show (k : Int) < 9223372036854775808; omega) (by simpa using hx) h) hs
theorem item_first {h₀ : Heap} {L : Addr} {news : List (Addr × Obj)} {value slice : PySem.Expr} {l : Addr} {vs : List Value} {n : Nat} {u : Tok} {v : Value} {Q : Value → Shared → Prop}
    (N : News h₀ L s.heap news) (hm : (l, ({ cls := .type "list", data := .seq (v :: vs).toArray n } : Obj)) ∈ news) (h : Q v s)
    (hs : subscripted slice false (.ref l) (.int 0 u) = operate [.ref l, .int 0 u] (getItem (.ref l) (.int 0 u)) := by with_unfolding_all rfl) :
    wpAny (model prog w) A (subscriptTail value slice (.ref l) (.int 0 u)) Q E s :=
  item_list (k := 0) (News.isList N hm) (by decide) rfl h hs
end
end Mine
end
section
open PySem PySem.W PyProof.Rows
set_option maxRecDepth 100000
set_option maxHeartbeats 8000000
namespace Mine
open PySem.Calls PyProof.V PySem.Spec
local macro_rules | `(tactic| walk_at "eval ListComp") => `(tactic| refine Stop.of ?_)
def inS (l x : Str) : Bool := !(Builtin.Str.occurrences l x 0 l.length 1).isEmpty
def goLots : List Str := ["idu", "xX", "fFgG"]
def goAny (x y : Str) (n : Nat) : Bool := (goLots.take n).any fun l => inS l x && inS l y
theorem goAny_succ {x y l : Str} {n : Nat} (h : goLots[n]? = some l) : goAny x y (n + 1) = (goAny x y n || (inS l x && inS l y)) := by
  unfold goAny
  rw [List.take_add_one, h, List.any_append]
  simp
local macro_rules | `(tactic| walk_at "compareOp NotEq ref ref") => `(tactic| refine Stop.of ?_)
section
variable {w : World} {mg mb : Str → Option Value} {mean : ExcName → Option Value}
theorem go_tells (x y : Str) (tx ty : Tok) : Tell w mg mb mean 20 200 119 [.str x tx, .str y ty] (fun _ _ => True) (fun tl r => tl = [] ∧ r = .bool (x == y || goAny x y 3)) := by
  k_with_none
  w_top off
  unfold Tell
  intro dp un gd cn cs a ccd cl outer A₀ base h₀ L m news s Q E B F X N T hk hd hu hP ret
  revert X; k_fill; intro X
  refine wpAny_call ?_
  k_dflt (refine' code_defC ?k1 ?k2 ?k3 ?k4 ?k5 ?kA ?kF ?kK ?k6 ?k7 ?k8 ?k9 ?kB ?kD ?_ ?c2 ?c3 ?c4; (case kA => exact rfl); (case kF => exact rfl); (case kK => assumption); (case k1 => k_asm); (case k2 => k_asm); (case k3 => k_asm); (case k4 => k_asm); (case k5 => k_asm); (case k6 => k_is); (case k7 => k_is); (case k8 => ktr_room); (case k9 => exact BindsTo.of_eq rfl); (case kB => exact rfl); (case kD => decide +kernel); (case c2 => exact rfl); (case c3 => exact rfl); (case c4 => exact rfl); k_whole)
  intro g₁ L₁ h₁ tk₁ cells FG₁ F₁ N₁ Y₁ B₁ X₁ T₁ l₁
  k_cells Y₁
  simp only [List.cons_append, List.nil_append] at N₁
  try dsimp only
  try k_fold
  k_steps
  · rename_i hxy kF kN _ _
    exact ret _ [] _ _ kF (newsTail (newsTail kN)) ⟨rfl, by rw [hxy]; rfl⟩
  · refine Stop.on ?_
    refine Lt.ListComp_tup (by k_asm) (by with_unfolding_all rfl) (by decide) (by rfl) (by decide) (by rfl) ?_
    k_steps
    rename_i hxy D1 h1 F1 N1 l1
    refine ⟨D1, _, 0, _, rfl, rfl, F1, N1, List.mem_cons_self, (show 3 ≤ sizeLine by decide), fun g => Lt.restT_inv (n := 3) (fun i ys nw => nw = _ ∧ ys.length ≤ i ∧ ys.isEmpty = !(goAny x y i)) ?_ ?_ 3 0 [] _ rfl ⟨rfl, Nat.le_refl _, rfl⟩⟩
    · rintro ys nw ⟨rfl, hyl, hys⟩
      intro D2 h2 tk2 F2 N2 off2
      k_steps
      refine Stop.on ?_
      refine ne_nil (News.isList (by k_asm) (List.mem_cons_of_mem _ List.mem_cons_self)) (News.isList (by k_asm) List.mem_cons_self) (by ke_room) ?_
      k_steps
      rename_i kF kN _ _
      refine ret _ [] _ _ kF (fun p hp => kN p (by simp only [List.nil_append] at hp; simp [hp])) ⟨rfl, ?_⟩
      rw [hxy, hys, Bool.not_not, Bool.false_or]
    · rintro i v ys nw I oI C oC D m₂ h tk E' hi hv ⟨rfl, hyl, hys⟩ hC hx F2 N2 off ne
      obtain ⟨l, t, rfl, hl⟩ : ∃ l t, v = .str l t ∧ goLots[i]? = some l := by
        have h3 : i = 0 ∨ i = 1 ∨ i = 2 := by omega
        rcases h3 with rfl | rfl | rfl
        all_goals exact ⟨_, _, (Option.some.inj hv).symm, rfl⟩
      k_steps
      · rename_i ha
        refine ⟨h, _, _, rfl, F2, N2, off, List.mem_cons_self, rfl, by omega, ?_⟩
        rw [hys, goAny_succ hl, show inS l x = false from by unfold inS; rw [ha]; rfl, Bool.false_and, Bool.or_false]
      · rename_i ha hb
        refine ⟨h, _, _, rfl, F2, N2, off, List.mem_cons_self, rfl, by omega, ?_⟩
        rw [hys, goAny_succ hl, show inS l y = false from by unfold inS; rw [hb]; rfl, Bool.and_false, Bool.or_false]
      · rename_i ha hb
        refine ⟨h, _, _, rfl, F2, N2, off, List.mem_cons_self, rfl, by rw [List.length_append]; simp only [List.length_singleton]; omega, ?_⟩
        rw [goAny_succ hl, show inS l x = true from by unfold inS; rw [ha]; rfl, show inS l y = true from by unfold inS; rw [hb]; rfl]
        simp
end
end Mine
end
section
open PySem PySem.W PyProof.Rows
set_option maxRecDepth 100000
set_option maxHeartbeats 800000
namespace Mine
open PySem.Calls PyProof.V PySem.Spec

def isNoneV : Value → Bool
  | .none => true
  | _ => false
theorem isNoneV_shape {v : Value} (h : isNoneV v = true) : v = .none := by
  cases v <;> first | rfl | cases h
def noneKind (prog : Program) (w : World) : KeyKind prog w Unit where
  is _ v := isNoneV v
  hash _ := reduceHash 0xFCA86420
  inj _ _ _ _ _ := rfl
  byValue _ v h := by rw [isNoneV_shape h]; rfl
  pyHash := fun {A E s k v Q} hv h => by
    rw [isNoneV_shape hv]
    show wpAny _ _ (pyHashByItsType .none) _ _ _
    exact pyHash_slot (T := "NoneType") rfl F.slot_NoneType_hash F.entry_NoneType_hash (F.args_NoneType_hash_1 _) (beq_builtin_none _) (.inl rfl) (wpAny_bind (wpAny_pure (wpAny_bind (wpAny_mkInt (wpAny_pure ⟨_, _, rfl, h⟩)))))
  eqBool := fun hu hv h => by
    rw [isNoneV_shape hu, isNoneV_shape hv]
    unfold PySem.eqBool
    exact wpAny_bind (wpAny_rule (wpAny_pure h))
  «strs» k x t v h := by cases h
section
variable {prog : Program} {w : World} {A : Around} {E : Value → Shared → Prop} {s : Shared} {h₀ : Heap} {L : Addr} {m : Str → Option Value} {news : List (Addr × Obj)}
theorem kpairs_none {vs : List Value} {ps : List Pair} (h : PairsAt news vs ps) (hn : ∀ p ∈ ps, p.1 = none) : ∃ kvs, Dp.KPairs (noneKind prog w) news vs kvs ∧ kvs.length = ps.length := by
  induction h with
  | nil => exact ⟨[], .nil, rfl⟩
  | @cons a p t1 t2 vs ps hm _ ih =>
    obtain ⟨kvs, h1, h3⟩ := ih fun q hq => hn q (List.mem_cons_of_mem _ hq)
    obtain ⟨nm, y⟩ := p
    obtain rfl : nm = none := hn _ List.mem_cons_self
    exact ⟨((), .str y t2) :: kvs, .cons hm rfl h1, by simp [h3]⟩
theorem dict_N {l : Addr} {k : Nat} {vs : List Value} {ps : List Pair} {Q : Value → Shared → Prop} (hh : A.handled = none) (F : Fr h₀ L s.heap m) (N : News h₀ L s.heap news)
    (hl : (l, ({ cls := .type "list", data := .seq vs.toArray k } : Obj)) ∈ news) (hps : PairsAt news vs ps) (hn : ∀ p ∈ ps, p.1 = none) (hsz : ps.length ≤ 100000)
    (h : ∀ h' d o tk, Fr h₀ L h' m → News h₀ L h' ((d, o) :: news) → Q (.ref d) { s with heap := h', toks := tk }) :
    wpAny (model prog w) A (call (.type "dict") [.ref l]) Q E s := by
  obtain ⟨kvs, h1, h3⟩ := kpairs_none (prog := prog) (w := w) hps hn
  refine Dp.call_dict_pairs hh hl h1 (fun p hp => (N p hp).1) (by omega) fun h' tk hD hk => ?_
  obtain ⟨o, ho, hd⟩ := Heap.dictOf_iff.mp hD
  have F' := F.keeps hk
  have N' : News h₀ L h' ((s.heap.objs.size, o) :: news) := fun p hp => by
    rcases List.mem_cons.mp hp with rfl | hp
    · exact ⟨ho, Nat.ne_of_gt F.ns.lt, ktu_new F (Nat.le_refl _)⟩
    · exact ⟨hk _ _ (N p hp).1, (N p hp).2⟩
  exact h h' _ o tk F' N'
end
end Mine
end
section
open PySem PySem.W PyProof.Rows
set_option maxRecDepth 100000
set_option maxHeartbeats 8000000
namespace Mine
open PySem.Calls PyProof.V PySem.Spec

local macro_rules | `(tactic| walk_at "compareOp Eq ref ref") => `(tactic| refine Stop.of ?_)
local macro_rules | `(tactic| walk_at "compareOp NotEq ref ref") => `(tactic| refine Stop.of ?_)
local macro_rules | `(tactic| walk_at "eval ListComp") => `(tactic| refine Stop.of ?_)
local macro_rules | `(tactic| walk_at "exec For Tuple Call cons nil") => `(tactic| (k_here; (rename Fr _ _ _ _ => lF'); (with_unfolding_all refine' For_turns lF' ?_; k_whole)))
local macro_rules | `(tactic| walk_at "call type:enumerate") => `(tactic| refine Stop.of ?_)
local macro_rules | `(tactic| walk_at "call type:dict") => `(tactic| refine Stop.of ?_)
local macro_rules | `(tactic| walk_at "ItemsRest") => `(tactic| refine Stop.of ?_)
local macro_rules | `(tactic| walk_at "eval Call") => `(tactic| (k_here; k_dflt (refine Call_ ?_)))
local macro_rules | `(tactic| walk_at "call ref") => `(tactic| refine Stop.of ?_)
local macro_rules | `(tactic| walk_at "exec For Name Tuple cons nil") => `(tactic| (k_here; (rename Fr _ _ _ _ => lF'); (with_unfolding_all refine' For_turns lF' ?_; k_whole)))
local macro_rules | `(tactic| walk_at "pyIter ref") => `(tactic| ((with_reducible show wpAny _ _ (pyIter (Value.ref _)) (fun it s₂ => TurnsAt _ _ _ _ _ _ _ _ _ it s₂) _ _); refine Stop.of ?_))
local macro_rules | `(tactic| walk_at "CompSrcT") => `(tactic| refine Stop.of ?_)
local macro_rules | `(tactic| walk_at "subscriptTail Name Constant ref int") => `(tactic| ((with_reducible show wpAny _ _ (subscriptTail _ _ (Value.ref _) (Value.int 0 _)) _ _ _); refine Stop.of ?_))
local macro_rules | `(tactic| walk_at "subscriptTail Name Name ref int") => `(tactic| refine Stop.of ?_)
local macro_rules | `(tactic| walk_at "storeName") => `(tactic| (k_here; k_dflt (refine' storeX_C ?F ?N ?c ?U ?d ?_ ?a ?b; (case a => rfl); (case b => rfl); (case F => k_asm); (case N => k_asm); (case c => rfl); (case U => exact UpdF.tail (Nat.ne_of_gt (by assumption)) (UpdF.tail (Nat.ne_of_gt (by assumption)) (UpdF.head (by assumption)))); (case d => k_asm); k_whole); intro h' o' F' N' d'; (try dsimp only at N')))
def duePos : Nat → List Pair → List Pair → Str
  | i, p :: ps, q :: qs => if (p.2 == q.2 || goAny p.2 q.2 3) then duePos (i + 1) ps qs else wordOf p.2 (Str.ofString (toString ((i : Int) + 1))) q.2
  | _, _, _ => ""
def dueName (f : Str → Option Str) : List Pair → Str
  | [] => ""
  | q :: qs => match q.1 with
    | none => ""
    | some n => match f n with
      | none => "unknown named placeholder '" ++ n ++ "'"
      | some y => if (q.2 == y || goAny q.2 y 3) then dueName f qs else wordOf q.2 ("'" ++ n ++ "'") y
def dueT (ps qs : List Pair) : Str :=
  if posOf ps && qs.isEmpty then Str.ofString "placeholders are incompatible"
  else if posOf ps != posOf qs then Str.ofString "the format strings are of different kinds"
  else if posOf ps then (if ps.length = qs.length then duePos 0 ps qs else Str.ofString "positional format placeholders are unbalanced")
  else dueName (lookP ps) qs
def dueS (ps qs : List Pair) : Str :=
  if ps.isEmpty then "" else if mixes ps then mixMsg else if mixes qs then mixMsg else dueT ps qs
def prs (rs : List Row) : List Pair := rs.map fun r => (r.name, r.letter)
def Plan (a1 a2 : Addr) (rs qs : List Row) (xs : List Itm) : Prop :=
  (xs = [.val (.ref a1), .val (.ref a2)]) ∨ (xs = [.val (.ref a2)] ∧ mixes (prs rs) = false) ∨ (xs = [] ∧ mixes (prs rs) = false ∧ mixes (prs qs) = false)
def CellAt (o : Obj) (v : Option Value) : Prop := o.data = .cell v
theorem any_succ {α : Type} {l : List α} {f : α → Bool} {i : Nat} {x : α} (h : l[i]? = some x) : (l.take (i + 1)).any f = ((l.take i).any f || f x) := by
  rw [List.take_add_one, h, List.any_append]
  simp
theorem prs_get {rs : List Row} {i : Nat} {r : Row} (h : rs[i]? = some r) : (prs rs)[i]? = some (r.name, r.letter) := by
  unfold prs
  rw [List.getElem?_map, h]; rfl
theorem dueS_t {ps qs : List Pair} (h : ps ≠ []) (h1 : mixes ps = false) (h2 : mixes qs = false) : dueS ps qs = dueT ps qs := by
  unfold dueS
  cases ps with
  | nil => exact absurd rfl h
  | cons p r => rw [h1, h2]; rfl
theorem dueS_r {r : Row} {rs : List Row} {qs : List Pair} (h1 : mixes (prs (r :: rs)) = false) (h2 : mixes qs = false) : dueS (prs (r :: rs)) qs = dueT (prs (r :: rs)) qs := dueS_t (List.cons_ne_nil _ _) h1 h2
theorem due_ne {c0 d0 : Int} {y0 z0 : Str} {rs qs : List Row} (h1 : mixes (prs (⟨c0, none, y0⟩ :: rs)) = false) (h2 : mixes (prs (⟨d0, none, z0⟩ :: qs)) = false) (hl : rs.length ≠ qs.length) :
    dueS (prs (⟨c0, none, y0⟩ :: rs)) (prs (⟨d0, none, z0⟩ :: qs)) = Str.ofString "positional format placeholders are unbalanced" := by
  rw [dueS_r h1 h2]
  have h : ¬ (prs (⟨c0, none, y0⟩ :: rs)).length = (prs (⟨d0, none, z0⟩ :: qs)).length := by unfold prs; rw [List.length_map, List.length_map, List.length_cons, List.length_cons]; omega
  exact if_neg h
theorem due_pos {c0 d0 : Int} {y0 z0 : Str} {rs qs : List Row} (h1 : mixes (prs (⟨c0, none, y0⟩ :: rs)) = false) (h2 : mixes (prs (⟨d0, none, z0⟩ :: qs)) = false) (hl : rs.length = qs.length) :
    dueS (prs (⟨c0, none, y0⟩ :: rs)) (prs (⟨d0, none, z0⟩ :: qs)) = duePos 0 (prs (⟨c0, none, y0⟩ :: rs)) (prs (⟨d0, none, z0⟩ :: qs)) := by
  rw [dueS_r h1 h2]
  have h : (prs (⟨c0, none, y0⟩ :: rs)).length = (prs (⟨d0, none, z0⟩ :: qs)).length := by unfold prs; rw [List.length_map, List.length_map, List.length_cons, List.length_cons]; omega
  exact if_pos h
theorem due_named {c0 : Int} {n0 y0 : Str} {rs : List Row} {qs : List Pair} (h1 : mixes (prs (⟨c0, some n0, y0⟩ :: rs)) = false) (h2 : mixes qs = false) (hq : posOf qs = false) :
    dueS (prs (⟨c0, some n0, y0⟩ :: rs)) qs = dueName (lookP (prs (⟨c0, some n0, y0⟩ :: rs))) qs := by
  rw [dueS_r h1 h2]
  unfold dueT
  rw [show posOf (prs (⟨c0, some n0, y0⟩ :: rs)) = false from rfl, hq]
  rfl
structure RowLen (r : Row) : Prop where
  letter : r.letter.length ≤ 10
  name : ∀ n, r.name = some n → n.length ≤ 10
def goS (x y : Str) : Bool := x == y || goAny x y 3
theorem go_tellsS {w : World} {mg mb : Str → Option Value} {mean : ExcName → Option Value} (x y : Str) (tx ty : Tok) : Tell w mg mb mean 20 200 119 [.str x tx, .str y ty] (fun _ _ => True) (fun tl r => tl = [] ∧ r = .bool (goS x y)) := go_tells x y tx ty
theorem dueName_none {f : Str → Option Str} {n y : Str} {qs : List Pair} (h : f n = none) : dueName f ((some n, y) :: qs) = "unknown named placeholder '" ++ n ++ "'" := by
  show (match f n with | none => "unknown named placeholder '" ++ n ++ "'" | some z => if goS y z then dueName f qs else wordOf y ("'" ++ n ++ "'") z) = _
  rw [h]
theorem dueName_ok {f : Str → Option Str} {n y z : Str} {qs : List Pair} (h : f n = some z) (hc : goS y z = true) : dueName f ((some n, y) :: qs) = dueName f qs := by
  show (match f n with | none => "unknown named placeholder '" ++ n ++ "'" | some z => if goS y z then dueName f qs else wordOf y ("'" ++ n ++ "'") z) = _
  rw [h]
  exact if_pos hc
theorem dueName_bad {f : Str → Option Str} {n y z : Str} {qs : List Pair} (h : f n = some z) (hc : goS y z = false) : dueName f ((some n, y) :: qs) = wordOf y ("'" ++ n ++ "'") z := by
  show (match f n with | none => "unknown named placeholder '" ++ n ++ "'" | some z => if goS y z then dueName f qs else wordOf y ("'" ++ n ++ "'") z) = _
  rw [h]
  exact if_neg (by rw [hc]; simp)
theorem duePos_ok {i : Nat} {p q : Pair} {ps qs : List Pair} (h : goS p.2 q.2 = true) : duePos i (p :: ps) (q :: qs) = duePos (i + 1) ps qs := if_pos h
theorem duePos_bad {i : Nat} {p q : Pair} {ps qs : List Pair} (h : goS p.2 q.2 = false) : duePos i (p :: ps) (q :: qs) = wordOf p.2 (Str.ofString (toString ((i : Int) + 1))) q.2 := if_neg (by rw [show (p.2 == q.2 || goAny p.2 q.2 3) = false from h]; simp)
theorem duePos_end {i : Nat} {ps : List Pair} : duePos i ps [] = "" := by cases ps <;> rfl
theorem prs_drop {qs : List Row} {i : Nat} {q : Row} (h : qs[i]? = some q) : (prs qs).drop i = (q.name, q.letter) :: (prs qs).drop (i + 1) := by
  obtain ⟨h1, e1⟩ := List.getElem?_eq_some_iff.mp (prs_get h)
  rw [List.drop_eq_getElem_cons h1, e1]
theorem prs_end {qs : List Row} {i : Nat} (h : qs.length ≤ i) : (prs qs).drop i = [] := List.drop_eq_nil_of_le (by unfold prs; rw [List.length_map]; exact h)
theorem enum_cons {i : Nat} {vs : List Value} {x : Itm} {r : List Itm} (h : x :: r = enumItems i (vs.drop i)) : ∃ v, vs[i]? = some v ∧ x = .pair (fun t => .int (i : Int) t) v ∧ r = enumItems (i + 1) (vs.drop (i + 1)) := by
  cases hd : vs.drop i with
  | nil => rw [hd] at h; cases h
  | cons v ws =>
    rw [hd] at h
    have hvi : vs[i]? = some v := by rw [← Nat.add_zero i, ← List.getElem?_drop, hd]; rfl
    have hdr : vs.drop (i + 1) = ws := by rw [← List.drop_drop, hd]; rfl
    obtain ⟨h1, h2⟩ := List.cons.inj h
    exact ⟨v, hvi, h1, by rw [hdr]; exact h2⟩
theorem enum_end {i : Nat} {vs : List Value} (h : [] = enumItems i (vs.drop i)) : vs.length ≤ i := by
  cases hd : vs.drop i with
  | nil => exact List.drop_eq_nil_iff.mp hd
  | cons v ws => rw [hd] at h; cases h
theorem quoteLen {n : Str} (h : n.length ≤ 10) : ("'" ++ n ++ "'" : Str).length ≤ 100 := by
  rw [strLen_append, strLen_append]
  show 1 + n.length + 1 ≤ 100
  omega
theorem plan_nil {a1 a2 : Addr} {rs qs : List Row} (h : Plan a1 a2 rs qs []) : mixes (prs rs) = false ∧ mixes (prs qs) = false := by
  rcases h with h | h | h
  · cases h
  · cases h.1
  · exact h.2
theorem plan_cons {a1 a2 : Addr} {rs qs : List Row} {x : Itm} {r : List Itm} {news : List (Addr × Obj)} {v1 v2 : List Value} {k1 k2 : Nat} (h : Plan a1 a2 rs qs (x :: r)) (hne : rs ≠ []) (h1 : (a1, ({ cls := .type "list", data := .seq v1.toArray k1 } : Obj)) ∈ news) (h2 : (a2, ({ cls := .type "list", data := .seq v2.toArray k2 } : Obj)) ∈ news)
    (hr : RowsAt news v1 rs) (hq : RowsAt news v2 qs) : ∃ ax vx kx rx, x = .val (.ref ax) ∧ (ax, ({ cls := .type "list", data := .seq vx.toArray kx } : Obj)) ∈ news ∧ RowsAt news vx rx ∧ (rx = rs ∨ rx = qs) ∧ (mixes (prs rx) = true → dueS (prs rs) (prs qs) = mixMsg) ∧ (mixes (prs rx) = false → Plan a1 a2 rs qs r) := by
  have hps : (prs rs).isEmpty = false := by cases rs with
    | nil => exact absurd rfl hne
    | cons _ _ => rfl
  have hd : dueS (prs rs) (prs qs) = if mixes (prs rs) then mixMsg else if mixes (prs qs) then mixMsg else dueT (prs rs) (prs qs) := by
    unfold dueS
    rw [hps]; rfl
  rcases h with h | ⟨h, h'⟩ | h
  · obtain ⟨rfl, rfl⟩ := List.cons.inj h
    exact ⟨a1, v1, k1, rs, rfl, h1, hr, .inl rfl, fun hm => by rw [hd, hm]; rfl, fun hm => .inr (.inl ⟨rfl, hm⟩)⟩
  · obtain ⟨rfl, rfl⟩ := List.cons.inj h
    exact ⟨a2, v2, k2, qs, rfl, h2, hq, .inr rfl, fun hm => by rw [hd, h', hm]; rfl, fun hm => .inr (.inr ⟨rfl, h', hm⟩)⟩
  · cases h.1
section
variable {w : World} {mg mb : Str → Option Value} {mean : ExcName → Option Value}
theorem due_tells (a1 a2 : Addr) (v1 v2 : List Value) (k1 k2 : Nat) (rs qs : List Row) : Tell w mg mb mean 40 400 131 [.ref a1, .ref a2]
    (fun _ news => (a1, ({ cls := .type "list", data := .seq v1.toArray k1 } : Obj)) ∈ news ∧ (a2, ({ cls := .type "list", data := .seq v2.toArray k2 } : Obj)) ∈ news ∧ RowsAt news v1 rs ∧ RowsAt news v2 qs ∧ rs.length ≤ 100 ∧ qs.length ≤ 100 ∧ (∀ r ∈ rs, RowLen r) ∧ ∀ q ∈ qs, RowLen q)
    (fun tl r => tl = [] ∧ ∃ t, r = .str (dueS (prs rs) (prs qs)) t) := by
  k_with_none
  w_top off
  unfold Tell
  intro dp un gd cn cs a ccd cl outer A₀ base h₀ L m news s Q E B F X N T hk hd hu hP ret
  obtain ⟨hm1, hm2, hrs, hqs, hlr, hlq, hler, hleq⟩ := hP
  revert X; k_fill; intro X
  refine wpAny_call ?_
  k_dflt (refine' code_defC ?k1 ?k2 ?k3 ?k4 ?k5 ?kA ?kF ?kK ?k6 ?k7 ?k8 ?k9 ?kB ?kD ?_ ?c2 ?c3 ?c4; (case kA => exact rfl); (case kF => exact rfl); (case kK => assumption); (case k1 => k_asm); (case k2 => k_asm); (case k3 => k_asm); (case k4 => k_asm); (case k5 => k_asm); (case k6 => k_is); (case k7 => k_is); (case k8 => ktr_room); (case k9 => exact BindsTo.of_eq rfl); (case kB => exact rfl); (case kD => decide +kernel); (case c2 => exact rfl); (case c3 => exact rfl); (case c4 => exact rfl); k_whole)
  intro g₁ L₁ h₁ tk₁ cells FG₁ F₁ N₁ Y₁ B₁ X₁ T₁ l₁
  have hY := CellsAre.one Y₁; obtain ⟨o1, hE1, d1⟩ := hY; subst hE1; clear Y₁
  simp only [List.cons_append, List.nil_append] at N₁
  replace F₁ : Fr g₁ L₁ h₁ (fun y => if y = "other" then some (.ref a2) else if y = "one" then some (.ref a1) else none) := F₁
  replace d1 : o1.data = .cell none := d1
  try dsimp only
  try k_fold
  k_steps
  refine Stop.on ?_
  rcases hrs with _ | ⟨hr0, hrs'⟩
  · refine eq_nil0 (News.isList (by k_asm) (List.mem_cons_of_mem _ (List.mem_cons_of_mem _ hm1))) (News.isList (by k_asm) List.mem_cons_self) (by ke_room) ?_
    k_steps
    rename_i kF kN _ _
    exact ret _ [] _ _ kF (newsTail (newsTail kN)) ⟨rfl, _, rfl⟩
  · rename_i ar r t1 t2 t3 vs rs
    refine eq_nil1 (News.isList (by k_asm) (List.mem_cons_of_mem _ (List.mem_cons_of_mem _ hm1))) (News.isList (by k_asm) List.mem_cons_self) (by ke_room) ?_
    k_steps
    refine Stop.on ?_
    rename_i D3 h3 F3 N3 l3
    have N4 : News g₁ L₁ h3 ((D3, ({ cls := .type "tuple", data := .seq #[.ref a1, .ref a2] } : Obj)) :: (L₁ + 1, o1) :: news) := fun p hp => N3 p (by
      rcases List.mem_cons.mp hp with rfl | hp
      · exact List.mem_cons_self
      · exact List.mem_cons_of_mem _ (List.mem_cons_of_mem _ hp))
    refine iter_tupTurns (vs := [.ref a1, .ref a2]) (n := 0) rfl F3 N4 List.mem_cons_self rfl rfl fun I lI => ?_
    clear N4
    have lI1 : L₁ + 1 < I := lI _ (List.mem_cons_of_mem _ List.mem_cons_self)
    have lD1 : L₁ + 1 < D3 := l3.2.1
    have off1 : ∀ p ∈ news, p.1 ≠ L₁ + 1 := fun p hp => Nat.ne_of_lt (Nat.lt_succ_of_lt (l₁ p hp))
    refine rest_inv (fun xs M nws => (∃ oc vc, nws = (D3, ({ cls := .type "tuple", data := .seq #[.ref a1, .ref a2] } : Obj)) :: (L₁ + 1, oc) :: news ∧ oc.data = .cell vc) ∧ M "one" = some (.ref a1) ∧ M "other" = some (.ref a2) ∧ Plan a1 a2 (r :: rs) qs xs) ?_ ?_ _ _ _ ⟨⟨o1, none, rfl, d1⟩, rfl, rfl, .inl rfl⟩
    · rintro M nws h4 tk4 ⟨⟨oc, vc, rfl, hoc⟩, e1, e2, hpl⟩ F4 N4
      rw [canon2 M "one" "other", e1, e2] at F4
      obtain ⟨hmr, hmq⟩ := plan_nil hpl
      replace N4 := newsTail (newsTail N4)
      clear N3 F3 hpl hoc
      obtain ⟨c0, nm0, y0⟩ := r
      have hqs0 := hqs
      rcases nm0 with _ | nm0
      · rcases hqs with _ | ⟨hq0, hqs'⟩
        · have N5 := newsAdd N4 hr0
          clear N4
          dsimp only [rowO, nameV] at N5
          k_steps
          refine Stop.on ?_
          refine item_first N5 (List.mem_cons_of_mem _ hm1) ?_
          k_steps
          refine Stop.on ?_
          refine ne_nil0 (News.isList (by k_asm) (List.mem_cons_of_mem _ (List.mem_cons_of_mem _ hm2))) (News.isList (by k_asm) List.mem_cons_self) (by ke_room) ?_
          k_steps
          refine Stop.on ?_
          refine eq_nil0 (News.isList (by k_asm) (List.mem_cons_of_mem _ (List.mem_cons_of_mem _ (List.mem_cons_of_mem _ (List.mem_cons_of_mem _ hm2))))) (News.isList (by k_asm) List.mem_cons_self) (by ke_room) ?_
          k_steps
          rename_i kF kN _ _
          exact ret _ [] _ _ kF (fun p hp => kN p (by simp only [List.nil_append] at hp; simp [hp])) ⟨rfl, _, by rw [dueS_r hmr hmq]; rfl⟩

        · rename_i aq0 q0 u1 u2 u3 wq qs
          obtain ⟨d0, mm0, z0⟩ := q0
          have N5 := newsAdd (newsAdd N4 hr0) (List.mem_cons_of_mem _ hq0)
          clear N4
          dsimp only [rowO] at N5
          cases mm0
          all_goals (
            dsimp only [nameV] at N5
            k_steps
            refine Stop.on ?_
            refine item_first N5 (List.mem_cons_of_mem _ (List.mem_cons_of_mem _ hm1)) ?_
            k_steps
            refine Stop.on ?_
            refine ne_nil1 (News.isList (by k_asm) (List.mem_cons_of_mem _ (List.mem_cons_of_mem _ (List.mem_cons_of_mem _ hm2)))) (News.isList (by k_asm) List.mem_cons_self) (by ke_room) ?_
            k_steps
            refine Stop.on ?_
            refine item_first (by k_asm) (List.mem_cons_of_mem _ (List.mem_cons_of_mem _ (List.mem_cons_of_mem _ hm2))) ?_
            k_steps)
          all_goals (
            refine Stop.on ?_
            refine eq_nil1 (News.isList (by k_asm) (List.mem_cons_of_mem _ (List.mem_cons_of_mem _ (List.mem_cons_of_mem _ (List.mem_cons_of_mem _ (List.mem_cons_of_mem _ hm2)))))) (News.isList (by k_asm) List.mem_cons_self) (by ke_room) ?_
            k_steps)
          rotate_left
          · rename_i kF kN _ _
            exact ret _ [] _ _ kF (fun p hp => kN p (by simp only [List.nil_append] at hp; simp [hp])) ⟨rfl, _, by rw [dueS_r hmr hmq]; rfl⟩

          have ll1 := hrs'.length
          have ll2 := hqs'.length
          rw [List.length_cons] at hlr hlq
          refine call_len_list (News.isList (by k_asm) (List.mem_cons_of_mem _ (List.mem_cons_of_mem _ (List.mem_cons_of_mem _ (List.mem_cons_of_mem _ (List.mem_cons_of_mem _ hm1)))))) ?_ ?_
          · rw [List.size_toArray, List.length_cons]; omega
          k_steps
          refine call_len_list (News.isList (by k_asm) (List.mem_cons_of_mem _ (List.mem_cons_of_mem _ (List.mem_cons_of_mem _ (List.mem_cons_of_mem _ (List.mem_cons_of_mem _ hm2)))))) ?_ ?_
          · rw [List.size_toArray, List.length_cons]; omega
          k_steps
          · rename_i hne kF kN _ _
            exact ret _ [] _ _ kF (fun p hp => kN p (by simp only [List.nil_append] at hp; simp [hp])) ⟨rfl, _, by rw [due_ne hmr hmq (by simp only [List.size_toArray, List.length_cons] at hne; omega)]⟩
          rename ((_ : Int) = _) => hle
          refine Stop.on ?_
          rename News _ _ _ _ => N9
          have N10 : News g₁ L₁ _ news := fun p hp => N9 p (by simp [hp])
          clear N9
          have hrs0 : RowsAt news (.ref ar :: vs) (⟨c0, none, y0⟩ :: rs) := .cons hr0 hrs'
          have lrs := hrs'.length
          refine L3.comp3 (by k_asm) (by with_unfolding_all rfl) (by decide) (by rfl) (by decide) (by rfl) (by rfl) (by rfl) (by decide) (by decide) (by decide) ?_
          k_steps
          refine ⟨a1, _, k1, news, fun i ys ex => PairsAt ex ys ((prs (⟨c0, none, y0⟩ :: rs)).take i), rfl, rfl, by k_asm, by k_asm, hm1, Nat.le_trans (by simp only [List.length_cons] at hlr ⊢; omega : _ ≤ 100) (by decide), .nil, ?_, ?_⟩
          · rintro i v ys ex hv hJ
            obtain ⟨t, ro, t1', t2', t3', rfl, hr, hm⟩ := hrs0.get hv
            refine ⟨t, 0, _, _, _, rfl, hm, ?_⟩
            intro I' oI C oC D m₂ h tk E' hC e1 e2 e3 F₂ N₂ lex ltI hID hDC
            k_steps
            rename_i T1 hT FT NT lT
            refine ⟨hT, _, (T1, tup2 (ro.name, ro.letter) t2' t3') :: ex, rfl, FT, fun p hp => NT p ?_, ?_, ?_⟩
            · rcases List.mem_append.mp hp with hp | hp
              · exact List.mem_cons_of_mem _ (List.mem_append_left _ hp)
              rcases List.mem_cons.mp hp with rfl | hp
              · exact List.mem_cons_self
              · exact List.mem_cons_of_mem _ (List.mem_append_right _ hp)
            · intro p hp
              rcases List.mem_cons.mp hp with rfl | hp
              · exact lT (C, oC) (by simp)
              · exact lex p hp
            · rw [List.take_add_one, prs_get hr]
              exact (hJ.mono fun p hp => List.mem_cons_of_mem _ hp).snoc List.mem_cons_self
          · rintro D ys ex h tk hJ F₂ N₂ _ _
            rw [List.take_of_length_le (by unfold prs; rw [List.length_map]; simp only [List.length_cons]; omega)] at hJ
            clear hqs'
            k_steps
            refine Stop.on ?_
            have hall : ∀ p ∈ prs (⟨c0, none, y0⟩ :: rs), p.1 = none := fun p hp => by
              have := List.any_eq_false.mp hmr p hp
              rw [show posOf (prs (⟨c0, none, y0⟩ :: rs)) = true from rfl] at this
              cases hq : p.1 with
              | none => rfl
              | some _ => rw [hq] at this; simp at this
            refine dict_N rfl (by k_asm) (by k_asm) List.mem_cons_self (hJ.mono fun p hp => List.mem_cons_of_mem _ (List.mem_append_left _ hp)) hall (by unfold prs; rw [List.length_map, List.length_cons]; omega) fun h7 d o tk7 F7 N7 => ?_
            clear N₂ F₂ N10
            k_steps
            refine Stop.on ?_
            simp only [List.size_toArray, List.length_cons] at hle
            refine ktu_enum rfl (by k_asm) (by k_asm) (List.mem_cons_of_mem _ (List.mem_cons_of_mem _ (List.mem_append_right _ hm2))) rfl rfl rfl fun I lI => ?_
            refine rest_inv (fun xs M nws => nws = _ ∧ ∃ i, xs = enumItems i (List.drop i (.ref aq0 :: wq)) ∧ M "is_first" = some (.bool true) ∧ M "one" = some (.ref a1) ∧ duePos 0 (prs (⟨c0, none, y0⟩ :: rs)) (prs (⟨d0, none, z0⟩ :: qs)) = duePos i ((prs (⟨c0, none, y0⟩ :: rs)).drop i) ((prs (⟨d0, none, z0⟩ :: qs)).drop i)) ?_ ?_ _ _ _ ⟨rfl, 0, rfl, rfl, rfl, rfl⟩
            · rintro M n h₂ tk₂ ⟨rfl, i, hxs, e1, e2, hdn⟩ F₂ N₂
              have hend := enum_end hxs
              rw [hqs0.length] at hend
              rw [prs_end hend, duePos_end] at hdn
              k_steps
              rename_i kF kN _ _
              exact ret _ [] _ _ kF (fun p hp => kN p (by simp only [List.nil_append] at hp; simp [hp])) ⟨rfl, _, by rw [due_pos hmr hmq (by omega), hdn]⟩
            · rintro x r M n v h₂ tk₂ ⟨rfl, i, hxs, e1, e2, hdn⟩ hv F₂
              rw [canon2 M "is_first" "one", e1, e2] at F₂
              obtain ⟨v0, hvi, rfl, rfl⟩ := enum_cons hxs
              obtain ⟨aq, q, w1, w2, w3, rfl, hq, hmq1⟩ := hqs0.get hvi
              have hi : i < (Value.ref ar :: vs).length := by
                have := (List.getElem?_eq_some_iff.mp hvi).1
                simp only [List.length_cons] at this ⊢
                omega
              obtain ⟨ap, p, s1, s2, s3, hvp, hp, hmp1⟩ := hrs0.get (List.getElem?_eq_getElem hi)
              have hvp' := (List.getElem?_eq_getElem hi).trans (congrArg some hvp)
              obtain ⟨Tt, tt, rfl, hT⟩ := hv
              refine AllObj.cons fun oe hce => AllObj.cons fun oi hci => AllObj.nil fun N3 => ?_
              have N4 := newsAdd (newsAdd N3 (List.mem_append_right _ (List.mem_cons_of_mem _ (List.mem_cons_of_mem _ (List.mem_append_right _ hmq1))))) (List.mem_cons_of_mem _ (List.mem_append_right _ (List.mem_cons_of_mem _ (List.mem_cons_of_mem _ (List.mem_append_right _ hmp1)))))
              clear N3
              rw [prs_drop hq, prs_drop hp] at hdn
              have hl1 := (hleq q (List.mem_of_getElem? hq)).letter
              have hl2 := (hler p (List.mem_of_getElem? hp)).letter
              have hi0 : (0 : Int) ≤ (i : Int) := Int.natCast_nonneg i
              have hi1 : (i : Int) < 200 := by simp only [List.length_cons] at hi; omega
              dsimp only [rowO, List.cons_append, List.nil_append] at N4
              k_steps
              refine Stop.on ?_
              have hlist : ∀ {h : Heap}, News g₁ L₁ h news → h.IsList a1 (Value.ref ar :: vs).toArray := fun N => News.isList N hm1
              refine item_list (k := i) (hlist fun p hp => ?_) (by omega) hvp' ?_
              · exact (show News g₁ L₁ _ _ by k_asm) p (by simp [hp])
              k_steps
              refine Stop.on ?_
              refine Tell.use (go_tellsS p.letter q.letter _ _) (by k_asm) (by k_asm) (by k_asm) (by k_asm) (by k_asm) rfl (by ktr_unf; ktr_room) (by ktr_unf; ktr_units) trivial ?_
              rintro _ tl8 h8 tk8 F8 N8 ⟨rfl, rfl⟩
              rw [List.nil_append] at N8
              rcases hg : goS p.letter q.letter with _ | _
              · rw [duePos_bad hg] at hdn
                k_steps
                refine Stop.on ?_
                refine item_list (k := i) (hlist fun p hp => ?_) (by omega) hvp' ?_
                · exact (show News g₁ L₁ _ _ by k_asm) p (by simp [hp])
                k_steps
                refine Stop.on ?_
                have ln : (Str.ofString (toString ((i : Int) + 1))).length ≤ 10 := KT.len_num (by omega) (by omega)
                refine Tell.use (word_tells p.letter (Str.ofString (toString ((i : Int) + 1))) q.letter _ _ _) (by k_asm) (by k_asm) (by k_asm) (by k_asm) (by k_asm) rfl (by ktr_unf; ktr_room) (by ktr_unf; ktr_units) ⟨by omega, by omega, by omega⟩ ?_
                rintro _ tl9 h9 tk9 F9 N9 ⟨rfl, t9, rfl⟩
                rw [List.nil_append] at N9
                k_steps
                rename_i kF kN _ _
                exact ret _ [] _ _ kF (fun p hp => kN p (by simp only [List.nil_append] at hp; simp [hp])) ⟨rfl, _, by rw [due_pos hmr hmq (by omega), hdn]⟩
              · rw [duePos_ok hg] at hdn
                k_steps
                refine endW2 (by k_asm) (newsTail (newsTail (by k_asm))) (fun q hq => ?_) ⟨⟨List.mem_cons_of_mem _ (List.mem_cons_of_mem _ (List.mem_append_right _ hm2)), trivial⟩, rfl, i + 1, rfl, rfl, rfl, hdn⟩
                exact ⟨Nat.ne_of_lt (Nat.lt_succ_of_lt (lI q hq)), Nat.ne_of_lt (lI q hq)⟩
      · rcases hqs with _ | ⟨hq0, hqs'⟩
        case' nil => (
          have N5 := newsAdd N4 hr0
          clear N4
          dsimp only [rowO, nameV] at N5
          k_steps
          refine Stop.on ?_
          refine item_first N5 (List.mem_cons_of_mem _ hm1) ?_
          k_steps
          refine Stop.on ?_
          refine ne_nil0 (News.isList (by k_asm) (List.mem_cons_of_mem _ (List.mem_cons_of_mem _ hm2))) (News.isList (by k_asm) List.mem_cons_self) (by ke_room) ?_
          k_steps
          )
        case' cons => (
          rename_i aq0 q0 u1 u2 u3 wq qs
          obtain ⟨d0, mm0, z0⟩ := q0
          have N5 := newsAdd (newsAdd N4 hr0) (List.mem_cons_of_mem _ hq0)
          clear N4
          dsimp only [rowO] at N5
          cases mm0
          all_goals (
            dsimp only [nameV] at N5
            k_steps
            refine Stop.on ?_
            refine item_first N5 (List.mem_cons_of_mem _ (List.mem_cons_of_mem _ hm1)) ?_
            k_steps
            refine Stop.on ?_
            refine ne_nil1 (News.isList (by k_asm) (List.mem_cons_of_mem _ (List.mem_cons_of_mem _ (List.mem_cons_of_mem _ hm2)))) (News.isList (by k_asm) List.mem_cons_self) (by ke_room) ?_
            k_steps
            refine Stop.on ?_
            refine item_first (by k_asm) (List.mem_cons_of_mem _ (List.mem_cons_of_mem _ (List.mem_cons_of_mem _ hm2))) ?_
            k_steps)
          all_goals (first
            | (rename_i kF kN _ _
               exact ret _ [] _ _ kF (fun p hp => kN p (by simp only [List.nil_append] at hp; simp [hp])) ⟨rfl, _, by rw [dueS_r hmr hmq]; rfl⟩)
            | skip)
          )
        all_goals (
          refine Stop.on ?_
          rename News _ _ _ _ => N9
          have N10 : News g₁ L₁ _ news := fun p hp => N9 p (by simp [hp])
          clear N9
          have hrs0 : RowsAt news (.ref ar :: vs) (⟨c0, some nm0, y0⟩ :: rs) := .cons hr0 hrs'
          have lrs := hrs'.length
          refine L3.comp3 (by k_asm) (by with_unfolding_all rfl) (by decide) (by rfl) (by decide) (by rfl) (by rfl) (by rfl) (by decide) (by decide) (by decide) ?_
          k_steps
          refine ⟨a1, _, k1, news, fun i ys ex => PairsAt ex ys ((prs (⟨c0, some nm0, y0⟩ :: rs)).take i), rfl, rfl, by k_asm, by k_asm, hm1, Nat.le_trans (by simp only [List.length_cons] at hlr ⊢; omega : _ ≤ 100) (by decide), .nil, ?_, ?_⟩
          · rintro i v ys ex hv hJ
            obtain ⟨t, ro, t1', t2', t3', rfl, hr, hm⟩ := hrs0.get hv
            refine ⟨t, 0, _, _, _, rfl, hm, ?_⟩
            intro I' oI C oC D m₂ h tk E' hC e1 e2 e3 F₂ N₂ lex ltI hID hDC
            k_steps
            rename_i T1 hT FT NT lT
            refine ⟨hT, _, (T1, tup2 (ro.name, ro.letter) t2' t3') :: ex, rfl, FT, fun p hp => NT p ?_, ?_, ?_⟩
            · rcases List.mem_append.mp hp with hp | hp
              · exact List.mem_cons_of_mem _ (List.mem_append_left _ hp)
              rcases List.mem_cons.mp hp with rfl | hp
              · exact List.mem_cons_self
              · exact List.mem_cons_of_mem _ (List.mem_append_right _ hp)
            · intro p hp
              rcases List.mem_cons.mp hp with rfl | hp
              · exact lT (C, oC) (by simp)
              · exact lex p hp
            · rw [List.take_add_one, prs_get hr]
              exact (hJ.mono fun p hp => List.mem_cons_of_mem _ hp).snoc List.mem_cons_self
          · rintro D ys ex h tk hJ F₂ N₂ _ _
            rw [List.take_of_length_le (by unfold prs; rw [List.length_map]; simp only [List.length_cons]; omega)] at hJ
            obtain ⟨v2', qs', hqs1, hm2', hlq', hmq', hleq', hpq', retN⟩ : ∃ v2' qs', RowsAt news v2' qs' ∧ (a2, ({ cls := .type "list", data := .seq v2'.toArray k2 } : Obj)) ∈ news ∧ qs'.length ≤ 100 ∧ mixes (prs qs') = false ∧ (∀ q ∈ qs', RowLen q) ∧ posOf (prs qs') = false ∧
              ∀ t h' tk', Fr h₀ L h' m → News h₀ L h' news → Q (.str (dueName (lookP (prs (⟨c0, some nm0, y0⟩ :: rs))) (prs qs')) t) { s with heap := h', toks := tk' } := ⟨_, _, hqs0, hm2, hlq, hmq, hleq, rfl, fun t h' tk' F N => ret _ [] _ _ F N ⟨rfl, _, by rw [due_named hmr hmq rfl]⟩⟩
            clear ret hqs0 hm2 hlq hmq hleq
            k_steps
            refine Stop.on ?_
            have hb := modules_low (Top.nolimit (by assumption))
            refine dict_K rfl (by k_asm) (by k_asm) hb List.mem_cons_self (hJ.mono fun p hp => List.mem_cons_of_mem _ (List.mem_append_left _ hp)) (named_of hmr rfl) (by unfold prs; rw [List.length_map]; omega) fun h7 d o tk7 F7 N7 H7 => ?_
            clear N₂ F₂ N10
            k_steps
            refine Stop.on ?_
            refine ktu_enum rfl (by k_asm) (by k_asm) (List.mem_cons_of_mem _ (List.mem_cons_of_mem _ (List.mem_append_right _ hm2'))) rfl rfl rfl fun I lI => ?_
            refine rest_inv (fun xs M nws => nws = _ ∧ ∃ i, xs = enumItems i (v2'.drop i) ∧ M "is_first" = some (.bool false) ∧ M "known" = some (.ref d) ∧ dueName (lookP (prs (⟨c0, some nm0, y0⟩ :: rs))) (prs qs') = dueName (lookP (prs (⟨c0, some nm0, y0⟩ :: rs))) ((prs qs').drop i)) ?_ ?_ _ _ _ ⟨rfl, 0, rfl, rfl, rfl, rfl⟩
            · rintro M n h₂ tk₂ ⟨rfl, i, hxs, e1, e2, hdn⟩ F₂ N₂
              have hend := enum_end hxs
              rw [hqs1.length] at hend
              rw [prs_end hend] at hdn
              rw [hdn] at retN
              k_steps
              rename_i kF kN _ _
              exact retN _ _ _ kF fun p hp => kN p (by simp [hp])
            · rintro x r M n v h₂ tk₂ ⟨rfl, i, hxs, e1, e2, hdn⟩ hv F₂
              rw [canon2 M "is_first" "known", e1, e2] at F₂
              obtain ⟨v0, hvi, rfl, rfl⟩ := enum_cons hxs
              obtain ⟨aq, q, w1, w2, w3, rfl, hq, hmq1⟩ := hqs1.get hvi
              obtain ⟨Tt, tt, rfl, hT⟩ := hv
              refine AllObj.cons fun oe hce => AllObj.cons fun oi hci => AllObj.nil fun N3 => ?_
              have N4 := newsAdd N3 (List.mem_append_right _ (List.mem_cons_of_mem _ (List.mem_cons_of_mem _ (List.mem_append_right _ hmq1))))
              clear N3
              rw [prs_drop hq] at hdn
              have hlen := hleq' q (List.mem_of_getElem? hq)
              have hnm := named_of hmq' hpq' (q.name, q.letter) (List.mem_of_getElem? (prs_get hq))
              obtain ⟨qc, qn, qy⟩ := q
              rcases qn with _ | qn
              · cases hnm
              have hl1 := hlen.letter
              have hl2 := hlen.name qn rfl
              dsimp only at hl1 hl2 hdn
              dsimp only [rowO, nameV, List.cons_append, List.nil_append] at N4
              k_steps
              rcases hf : lookP (prs (⟨c0, some nm0, y0⟩ :: rs)) qn with _ | z
              · refine DictIs.notin0 H7 (by k_asm) (List.mem_cons_of_mem _ (List.mem_cons_of_mem _ (List.mem_cons_of_mem _ List.mem_cons_self))) hf ?_
                rw [dueName_none hf] at hdn
                rw [hdn] at retN
                k_steps
                rename_i kF kN _ _
                exact retN _ _ _ kF fun p hp => kN p (by simp [hp])
              · have hl3 : z.length ≤ 10 := by
                  obtain ⟨p, hp, he⟩ := lookP_mem hf
                  obtain ⟨r0, hr0', rfl⟩ := List.mem_map.mp hp
                  rw [← he]
                  exact (hler r0 hr0').letter
                refine DictIs.notin1 H7 (by k_asm) (List.mem_cons_of_mem _ (List.mem_cons_of_mem _ (List.mem_cons_of_mem _ List.mem_cons_self))) hf ?_
                k_steps
                refine DictIs.item H7 (by k_asm) (List.mem_cons_of_mem _ (List.mem_cons_of_mem _ (List.mem_cons_of_mem _ List.mem_cons_self))) hf fun _ => ?_
                k_steps
                refine Stop.on ?_
                refine Tell.use (go_tellsS qy z _ _) (by k_asm) (by k_asm) (by k_asm) (by k_asm) (by k_asm) rfl (by ktr_unf; ktr_room) (by ktr_unf; ktr_units) trivial ?_
                rintro _ tl8 h8 tk8 F8 N8 ⟨rfl, rfl⟩
                rw [List.nil_append] at N8
                rcases hg : goS qy z with _ | _
                · rw [dueName_bad hf hg] at hdn
                  rw [hdn] at retN
                  k_steps
                  refine DictIs.item H7 (by k_asm) (List.mem_cons_of_mem _ (List.mem_cons_of_mem _ (List.mem_cons_of_mem _ List.mem_cons_self))) hf fun _ => ?_
                  k_steps
                  refine Stop.on ?_
                  refine Tell.use (word_tells qy ("'" ++ qn ++ "'") z _ _ _) (by k_asm) (by k_asm) (by k_asm) (by k_asm) (by k_asm) rfl (by ktr_unf; ktr_room) (by ktr_unf; ktr_units) ⟨by omega, quoteLen hl2, by omega⟩ ?_
                  rintro _ tl9 h9 tk9 F9 N9 ⟨rfl, t9, rfl⟩
                  rw [List.nil_append] at N9
                  k_steps
                  rename_i kF kN _ _
                  exact retN _ _ _ kF fun p hp => kN p (by simp [hp])
                · k_steps
                  have lfI := fun p hp => lI p hp
                  refine endW2 (by k_asm) (newsTail (by k_asm)) (fun q hq => ?_) ⟨⟨List.mem_cons_of_mem _ (List.mem_cons_of_mem _ (List.mem_append_right _ hm2')), trivial⟩, rfl, i + 1, rfl, rfl, rfl, hdn.trans (dueName_ok hf hg)⟩
                  exact ⟨Nat.ne_of_lt (Nat.lt_succ_of_lt (lI q hq)), Nat.ne_of_lt (lI q hq)⟩)
    · rintro x xs M nws v h4 tk4 ⟨⟨oc, vc, rfl, hoc⟩, e1, e2, hpl⟩ hv F4
      rw [canon2 M "one" "other", e1, e2] at F4
      obtain ⟨ax, vx, kx, rx, rfl, hmx, hrx, hrxq, hbad, hgood⟩ := plan_cons hpl (List.cons_ne_nil _ _) hm1 hm2 (.cons hr0 hrs') hqs
      obtain rfl : v = .ref ax := hv
      refine AllObj.cons fun oi hci => AllObj.nil fun N5 => ?_
      simp only [List.cons_append, List.nil_append] at N5
      k_steps
      refine Stop.on ?_
      rename_i h6 o6 F6 N6 d6
      refine LCt.ListComp_T (F₀ := by k_asm) (by with_unfolding_all rfl) (by decide) (by rfl) (by decide) (by rfl) ?_
      k_steps
      refine Stop.on ?_
      have hlx : rx.length ≤ 100 := by rcases hrxq with rfl | rfl <;> assumption
      have hsz : vx.toArray.size ≤ sizeLine := by rw [List.size_toArray, hrx.length]; exact Nat.le_trans hlx (by decide)
      have hvx : vx.toArray.size = (prs rx).length := by rw [List.size_toArray, hrx.length]; unfold prs; rw [List.length_map]
      refine LCt.CompSrcT.ledger rfl F6 N6 (List.mem_cons_of_mem _ (List.mem_cons_of_mem _ (List.mem_cons_of_mem _ hmx))) hsz fun g => ?_
      refine Lt.restT_inv (n := vx.toArray.size) (fun i ys nw => nw = _ ∧ ys.length ≤ i ∧ ys.isEmpty = !((prs rx).take i).any fun p => p.1.isNone != posOf (prs rx)) ?_ ?_ _ 0 [] _ rfl ⟨rfl, Nat.le_refl _, rfl⟩
      · rintro ys nw ⟨rfl, hyl, hys⟩
        rw [hvx, List.take_length] at hys
        intro D2 h7 tk7 F7 N7 off7
        k_steps
        refine Stop.on ?_
        refine ne_nil (News.isList (by k_asm) (List.mem_cons_of_mem _ List.mem_cons_self)) (News.isList (by k_asm) List.mem_cons_self) (by ke_room) ?_
        rcases hm : mixes (prs rx) with _ | _
        · have hye : ys.isEmpty = true := hys.trans (by rw [show ((prs rx).any fun p => p.1.isNone != posOf (prs rx)) = false from hm]; rfl)
          rw [hye, Bool.not_true]
          k_steps
          rename_i kF kN _
          refine endW1 kF (fun p hp => kN p (List.mem_cons_of_mem _ (List.mem_cons_of_mem _ hp))) ?_ ⟨⟨List.mem_cons_self, trivial⟩, ⟨_, _, rfl, d6⟩, rfl, rfl, hgood hm⟩
          intro p hp
          rcases List.mem_cons.mp hp with rfl | hp
          · exact lI _ List.mem_cons_self
          rcases List.mem_cons.mp hp with rfl | hp
          · exact lI1
          · exact lI _ (List.mem_cons_of_mem _ (List.mem_cons_of_mem _ hp))
        · have hye : ys.isEmpty = false := hys.trans (by rw [show ((prs rx).any fun p => p.1.isNone != posOf (prs rx)) = true from hm]; rfl)
          rw [hye, Bool.not_false]
          k_steps
          rename_i kF kN _ _
          exact ret _ [] _ _ kF (fun p hp => kN p (by simp only [List.nil_append] at hp; simp [hp])) ⟨rfl, _, by rw [hbad hm]⟩
      · rintro i v ys nw I2 oI C oC D m₂ h7 tk7 E' hi hv ⟨rfl, hyl, hys⟩ hC hx F7 N7 off7 ne7
        rw [List.getElem?_toArray] at hv
        obtain ⟨aa, ro, t4, t5, t6, rfl, hro, hma⟩ := hrx.get hv
        rcases hrx with _ | ⟨hma0, hrx'⟩
        · cases hv
        rename_i aa0 ro0 t7 t8 t9 vx rx
        have N8 := newsAdd (newsAdd (newsAdd N7 (List.mem_cons_of_mem _ (List.mem_cons_of_mem _ (List.mem_cons_of_mem _ (List.mem_cons_of_mem _ (List.mem_cons_of_mem _ (List.mem_cons_of_mem _ hmx))))))) (List.mem_cons_of_mem _ (List.mem_cons_of_mem _ (List.mem_cons_of_mem _ (List.mem_cons_of_mem _ (List.mem_cons_of_mem _ (List.mem_cons_of_mem _ (List.mem_cons_of_mem _ hma0)))))))) (List.mem_cons_of_mem _ (List.mem_cons_of_mem _ (List.mem_cons_of_mem _ (List.mem_cons_of_mem _ (List.mem_cons_of_mem _ (List.mem_cons_of_mem _ (List.mem_cons_of_mem _ (List.mem_cons_of_mem _ hma))))))))
        clear N7
        obtain ⟨c, nm, y⟩ := ro
        obtain ⟨c0, nm0, y0⟩ := ro0
        dsimp only [rowO] at N8
        cases nm
        all_goals (cases nm0)
        all_goals (
          dsimp only [nameV] at N8
          k_steps
          refine Stop.on ?_
          refine item_first (by k_asm) (List.mem_cons_of_mem _ (List.mem_cons_of_mem _ List.mem_cons_self)) ?_
          k_steps)
        all_goals (
          refine LCg.CompEnd.intro F7 N8 _ (fun p hp => List.mem_cons_of_mem _ (List.mem_cons_of_mem _ (List.mem_cons_of_mem _ hp))) off7 (.inr ⟨_, List.mem_cons_of_mem _ (List.mem_cons_of_mem _ (List.mem_cons_of_mem _ hmx)), rfl, _, rfl⟩) ⟨rfl, ?_, ?_⟩
          · first | (rw [List.length_append]; simp only [List.length_singleton]; omega) | omega
          · rw [any_succ (prs_get hro)]
            first
              | (rw [show ((none : Option Str).isNone != posOf (prs ({ num := c0, name := none, letter := y0 } :: rx))) = false from rfl, Bool.or_false]; exact hys)
              | (rw [show ((some _ : Option Str).isNone != posOf (prs ({ num := c0, name := some _, letter := y0 } :: rx))) = false from rfl, Bool.or_false]; exact hys)
              | (rw [show ((none : Option Str).isNone != posOf (prs ({ num := c0, name := some _, letter := y0 } :: rx))) = true from rfl, Bool.or_true]; simp)
              | (rw [show ((some _ : Option Str).isNone != posOf (prs ({ num := c0, name := none, letter := y0 } :: rx))) = true from rfl, Bool.or_true]; simp))
end
end Mine
end
section
open PySem PySem.W PyProof.Rows
set_option maxRecDepth 100000
set_option maxHeartbeats 800000
namespace Mine
open PySem.Calls PyProof.V PySem.Spec PySem.Builtin.Re

/-- a text by its signs -/
abbrev T (l : List Nat) : Str := ⟨l.toArray⟩
theorem T_toList (x : Str) : T x.cps.toList = x := rfl
theorem slice_drop (l : List Nat) (k : Nat) (h : k ≤ l.length) : Txt.slice (T l) (some ((k : Nat) : Int)) none = T (l.drop k) := by
  have e : Builtin.Str.strSliceIndices (some ((k : Nat) : Int)) none 1 (T l).length = (List.range (l.length - k)).map (k + ·) := by
    unfold Builtin.Str.strSliceIndices
    have h1 : ¬ ((k : Int) < 0) := by omega
    have hs : (T l).length = l.length := List.size_toArray ..
    rw [hs]
    simp only [h1, if_false, show (1 : Int) > 0 by decide, if_true]
    rw [show max (0 : Int) (min (k : Int) (l.length : Int)) = (k : Int) by omega]
    exact sliceRange_one _ _
  unfold Txt.slice
  rw [e]
  split
  · rename_i hc
    simp only [List.length_map, List.length_range, Bool.and_eq_true, beq_iff_eq] at hc
    have hs : (T l).length = l.length := List.size_toArray ..
    rw [hs] at hc
    by_cases hk : k = 0
    · subst hk; rfl
    · have : l = [] := List.eq_nil_of_length_eq_zero (by omega)
      subst this
      simp
  · rw [pick_run]
    show T _ = T _
    rw [show (T l).cps.toList = l from rfl, List.take_of_length_le (by simp)]
theorem cut_mid (a b c : List Nat) {l : List Nat} (h : l = a ++ (b ++ c)) {i j : Nat} (hi : i = a.length) (hj : j = a.length + b.length) : cut (T l) i j = T b := by
  subst h hi hj
  unfold cut
  show (⟨(a ++ (b ++ c)).toArray.extract a.length (a.length + b.length)⟩ : Str) = T b
  rw [List.extract_toArray, List.extract_eq_take_drop, Nat.add_sub_cancel_left, List.drop_left, List.take_left]
theorem has_mid (a b c : List Nat) {l : List Nat} (h : l = a ++ (b ++ c)) {i : Nat} (hi : i = a.length) : Rx.Has l.toArray i b := by
  subst h hi
  refine ⟨by simp, fun j hj => ?_⟩
  rw [Array.getD_eq_getD_getElem?, List.getElem?_toArray, List.getElem?_append_right (Nat.le_add_right _ _), Nat.add_sub_cancel_left, List.getElem?_append_left hj, List.getElem?_eq_getElem hj]
  rfl
theorem pre_no {a b l : List Nat} (h : l = a ++ b) (ha : ∀ x ∈ a, x ≠ 37) : ∀ j, j < a.length → l.toArray.getD j 0 ≠ 37 := by
  subst h
  intro j hj
  rw [Array.getD_eq_getD_getElem?, List.getElem?_toArray, List.getElem?_append_left hj, List.getElem?_eq_getElem hj]
  exact ha _ (List.getElem_mem hj)

section
variable {pre rest fl wd pr sz l : List Nat} {c : Nat} {ps : List Pair} {n : Nat}
theorem parses_plain (hl : l = pre ++ ((37 :: (fl ++ (wd ++ (pr ++ (sz ++ [c]))))) ++ rest)) (hsz : l.length ≤ 1000000) (hpre : ∀ x ∈ pre, x ≠ 37) (hf : fl ∈ Rx.Fl) (hw : wd ∈ Rx.Wd) (hp : pr ∈ Rx.Pr) (hs : sz ∈ Rx.Sz) (hc : c ∈ Rx.C7)
    (h : Parses (T rest) ps n) : Parses (T l) (addTo (none, T [c]) ps) (n + 1) := by
  have hlen : l.length = pre.length + (1 + (fl ++ (wd ++ (pr ++ sz))).length + 1) + rest.length := by rw [hl]; simp; omega
  have L := Rx.search_plain (text := l.toArray) pre.length (pre_no hl hpre) hf hw hp hs hc (has_mid _ _ _ hl rfl)
  have ez : (T l).cps.size = l.length := List.size_toArray ..
  have Fd : Found (T l) (some (pre.length, pre.length + 1, pre.length + 1 + (fl ++ (wd ++ (pr ++ sz))).length, none)) :=
    Found.some (by rw [ez]; exact hsz) L (by omega) (by omega) (fun _ h => nomatch h) (by rw [ez]; omega)
  have G := Parses.go (l := ps) (n := n) Fd (by
    rw [slice_drop l _ (by omega)]
    have : l.drop (pre.length + 1 + (fl ++ (wd ++ (pr ++ sz))).length + 1) = rest := by
      have e : l = (pre ++ (37 :: (fl ++ (wd ++ (pr ++ (sz ++ [c])))))) ++ rest := by rw [hl]; simp
      rw [e]
      exact List.drop_left' (by simp; omega)
    rw [this]; exact h)
  have : pairOf (T l) none (pre.length + 1 + (fl ++ (wd ++ (pr ++ sz))).length) = (none, T [c]) := by
    unfold pairOf
    rw [cut_mid (pre ++ (37 :: (fl ++ (wd ++ (pr ++ sz))))) [c] rest (by rw [hl]; simp) (by simp; omega) (by simp; omega)]
    rfl
  rw [this] at G
  exact G
theorem parses_named (cs : List Nat) (hcs : ∀ x ∈ cs, x ∈ [110, 111, 102, 120, 95, 49, 109]) (hcl : cs.length ≤ 100) (hl : l = pre ++ ((37 :: ((40 :: (cs ++ [41])) ++ (fl ++ (wd ++ (pr ++ (sz ++ [c])))))) ++ rest)) (hsz : l.length ≤ 1000000) (hpre : ∀ x ∈ pre, x ≠ 37) (hf : fl ∈ Rx.Fl) (hw : wd ∈ Rx.Wd) (hp : pr ∈ Rx.Pr) (hs : sz ∈ Rx.Sz) (hc : c ∈ Rx.C7)
    (h : Parses (T rest) ps n) : Parses (T l) (addTo (some (T cs), T [c]) ps) (n + 1) := by
  have hlen : l.length = pre.length + (2 + cs.length + 1 + (fl ++ (wd ++ (pr ++ sz))).length + 1) + rest.length := by rw [hl]; simp; omega
  have L := Rx.search_named (text := l.toArray) pre.length (pre_no hl hpre) cs hcs hcl hf hw hp hs hc (has_mid _ _ _ hl rfl) _ rfl
  have ez : (T l).cps.size = l.length := List.size_toArray ..
  have Fd : Found (T l) (some (pre.length, pre.length + 2 + cs.length + 1, pre.length + 2 + cs.length + 1 + (fl ++ (wd ++ (pr ++ sz))).length, some (pre.length + 2, pre.length + 2 + cs.length))) :=
    Found.some (by rw [ez]; exact hsz) L (by omega) (by omega) (fun q hq => by cases hq; exact Nat.le_add_right _ _) (by rw [ez]; omega)
  have G := Parses.go (l := ps) (n := n) Fd (by
    rw [slice_drop l _ (by omega)]
    have : l.drop (pre.length + 2 + cs.length + 1 + (fl ++ (wd ++ (pr ++ sz))).length + 1) = rest := by
      have e : l = (pre ++ (37 :: ((40 :: (cs ++ [41])) ++ (fl ++ (wd ++ (pr ++ (sz ++ [c]))))))) ++ rest := by rw [hl]; simp
      rw [e]
      exact List.drop_left' (by simp; omega)
    rw [this]; exact h)
  have : pairOf (T l) (some (pre.length + 2, pre.length + 2 + cs.length)) (pre.length + 2 + cs.length + 1 + (fl ++ (wd ++ (pr ++ sz))).length) = (some (T cs), T [c]) := by
    unfold pairOf
    rw [cut_mid (pre ++ (37 :: ((40 :: (cs ++ [41])) ++ (fl ++ (wd ++ (pr ++ sz)))))) [c] rest (by rw [hl]; simp) (by simp; omega) (by simp; omega)]
    show (some (cut (T l) (pre.length + 2) (pre.length + 2 + cs.length)), _) = _
    rw [cut_mid (pre ++ [37, 40]) cs ([41] ++ (fl ++ (wd ++ (pr ++ (sz ++ [c])))) ++ rest) (by rw [hl]; simp) (by simp) (by simp)]
  rw [this] at G
  exact G
theorem parses_stop (hsz : l.length ≤ 1000000) (h : ∀ x ∈ l, x ≠ 37) : Parses (T l) [] 0 := by
  have ez : (T l).cps.size = l.length := List.size_toArray ..
  exact .stop (Found.none (by rw [ez]; exact hsz) fun j hj => pre_no (l := l) (a := l) (b := []) (List.append_nil _).symm h j (by rw [← ez]; exact hj))
end

/-- the letters of the law -/
def Letters : List Nat := [100, 105, 111, 117, 120, 88, 101, 69, 102, 70, 103, 71, 99, 114, 115]
def Names : List (List Nat) := [[110], [111, 102], [120, 95, 49], [109], []]
structure RowGood (r : Row) : Prop where
  num : 0 ≤ r.num
  letter : ∃ c ∈ Letters, r.letter = T [c]
  name : ∀ n, r.name = some n → ∃ cs ∈ Names, n = T cs
def pairR (r : Row) : Pair := (r.name, r.letter)
def nameC : Option Str → List Nat
  | none => []
  | some n => 40 :: (n.cps.toList ++ [41])
theorem headC (nm : Option Str) : (headOf nm).cps.toList = 37 :: nameC nm := by
  cases nm with
  | none => rfl
  | some n =>
    show ((("%(" : Str).cps ++ n.cps) ++ (")" : Str).cps).toList = _
    rw [Array.toList_append, Array.toList_append]
    rfl
theorem menu_mem {ws : List Str} {i : Int} {L : List (List Nat)} (h : ∀ x ∈ ws, x.cps.toList ∈ L) (h0 : [] ∈ L) : (menu ws i).cps.toList ∈ L := by
  unfold menu
  rw [List.getD_eq_getElem?_getD]
  cases hx : ws[i.toNat]? with
  | none => exact h0
  | some x => exact h x (List.mem_of_getElem? hx)
theorem app_toList (a b : Str) : (a ++ b).cps.toList = a.cps.toList ++ b.cps.toList := Array.toList_append ..
theorem rowC (r : Row) : ∃ fl ∈ Rx.Fl, ∃ wd ∈ Rx.Wd, ∃ pr ∈ Rx.Pr, ∃ sz ∈ Rx.Sz, (rowText r).cps.toList = 37 :: (nameC r.name ++ (fl ++ (wd ++ (pr ++ (sz ++ r.letter.cps.toList))))) := by
  refine ⟨_, menu_mem (ws := ["", "-", "0", "+", " ", "#"]) (i := r.num.fmod 6) (by decide +kernel) (by decide), _, menu_mem (ws := ["", "5", "*", "12"]) (i := (r.num.fdiv 6).fmod 4) (by decide +kernel) (by decide), _, menu_mem (ws := ["", ".2", ".*"]) (i := (r.num.fdiv 24).fmod 3) (by decide +kernel) (by decide), _, menu_mem (ws := ["", "l", "h"]) (i := (r.num.fdiv 72).fmod 3) (by decide +kernel) (by decide), ?_⟩
  unfold rowText textOf
  rw [app_toList, app_toList, app_toList, app_toList, app_toList, headC]
  simp only [List.cons_append, List.append_assoc]

theorem parses_row {r : Row} (hr : RowGood r) {pre rest l : List Nat} {ps : List Pair} {n : Nat} (hl : l = pre ++ ((rowText r).cps.toList ++ rest)) (hsz : l.length ≤ 1000000) (hpre : ∀ x ∈ pre, x ≠ 37) (h : Parses (T rest) ps n) :
    Parses (T l) (pairR r :: ps) (n + 1) := by
  obtain ⟨fl, hf, wd, hw, pr, hp, sz, hs, e⟩ := rowC r
  obtain ⟨c, hc, ec⟩ := hr.letter
  have hc7 : c ∈ Rx.C7 := (show ∀ x ∈ Letters, x ∈ Rx.C7 by decide) c hc
  have hc37 : c ≠ 37 := (show ∀ x ∈ Letters, x ≠ 37 by decide) c hc
  have hadd : ∀ nm : Option Str, addTo (nm, T [c]) ps = (nm, T [c]) :: ps := fun nm => by
    have : isPct (nm, T [c]) = false := by
      unfold isPct
      rw [show (T [c] == ("%" : Str)) = false from by
        rw [beq_eq_false_iff_ne]
        intro h
        have h' : [c] = [37] := congrArg (fun x : Str => x.cps.toList) h
        exact hc37 (List.cons.inj h').1]
      rfl
    unfold addTo
    rw [this]; rfl
  have el : r.letter.cps.toList = [c] := by rw [ec]
  rw [el] at e
  rw [e] at hl
  have ep : pairR r = (r.name, T [c]) := by unfold pairR; rw [ec]
  rw [ep, ← hadd]
  cases hn : r.name with
  | none =>
    rw [hn] at hl
    exact parses_plain (by rw [hl]; rfl) hsz hpre hf hw hp hs hc7 h
  | some nm =>
    rw [hn] at hl
    obtain ⟨cs, hcs, ecs⟩ := hr.name nm hn
    have h1 : ∀ x ∈ cs, x ∈ [110, 111, 102, 120, 95, 49, 109] := (show ∀ cs ∈ Names, ∀ x ∈ cs, x ∈ [110, 111, 102, 120, 95, 49, 109] by decide) cs hcs
    have h2 : cs.length ≤ 100 := (show ∀ cs ∈ Names, cs.length ≤ 100 by decide) cs hcs
    rw [ecs] at hl ⊢
    exact parses_named cs h1 h2 (by rw [hl]; rfl) hsz hpre hf hw hp hs hc7 h

/-- the texts between -/
def Btws : List (List Nat) := [[32], [32, 37, 37, 32], [45], []]
theorem parses_tail {b : List Nat} (hb : b ∈ Btws) : ∀ (rs : List Row), (∀ r ∈ rs, RowGood r) → ∀ (pre l : List Nat), l = pre ++ ((Str.join (T b) (rs.map rowText)).cps.toList ++ [32, 122]) → l.length ≤ 1000000 → (∀ x ∈ pre, x ≠ 37) →
    ∃ n, n ≤ 2 * rs.length ∧ Parses (T l) (rs.map pairR) n
  | [], _, pre, l, hl, hsz, hpre => ⟨0, Nat.le_refl _, parses_stop hsz (by
      rw [hl]
      intro x hx
      rcases List.mem_append.mp hx with hx | hx
      · exact hpre x hx
      · rw [show (Str.join (T b) (([] : List Row).map rowText)).cps.toList = [] from rfl, List.nil_append] at hx
        exact (show ∀ x ∈ [32, 122], x ≠ 37 by decide) x hx)⟩
  | [r], hg, pre, l, hl, hsz, hpre => by
      obtain ⟨hl'⟩ : l = pre ++ ((rowText r).cps.toList ++ [32, 122]) ∧ True := ⟨hl, trivial⟩
      exact ⟨1, by simp, parses_row (hg r List.mem_cons_self) hl' hsz hpre (parses_stop (by decide) (by decide))⟩
  | r :: q :: rs, hg, pre, l, hl, hsz, hpre => by
      have e : (Str.join (T b) ((r :: q :: rs).map rowText)).cps.toList = (rowText r).cps.toList ++ (b ++ (Str.join (T b) ((q :: rs).map rowText)).cps.toList) := by
        show ((rowText r ++ T b) ++ Str.join (T b) ((q :: rs).map rowText)).cps.toList = _
        rw [app_toList, app_toList, List.append_assoc]
      rw [e] at hl
      generalize hj : (Str.join (T b) ((q :: rs).map rowText)).cps.toList = J at hl
      have hl' : l = pre ++ ((rowText r).cps.toList ++ (b ++ (J ++ [32, 122]))) := by rw [hl]; simp
      have hlen := hl' ▸ hsz
      simp only [List.length_append] at hlen
      have ih := fun pre' l' h1 h2 h3 => parses_tail hb (q :: rs) (fun x hx => hg x (List.mem_cons_of_mem _ hx)) pre' l' (by rw [hj]; exact h1) h2 h3
      by_cases h37 : 37 ∈ b
      · obtain rfl : b = [32, 37, 37, 32] := by
          rcases List.mem_cons.mp hb with rfl | hb
          · exact absurd h37 (by decide)
          rcases List.mem_cons.mp hb with rfl | hb
          · rfl
          rcases List.mem_cons.mp hb with rfl | hb
          · exact absurd h37 (by decide)
          · rw [List.mem_singleton.mp hb] at h37; exact absurd h37 (by decide)
        obtain ⟨n, hn, hP⟩ := ih [32] _ rfl (by simp only [List.length_append, List.length_cons, List.length_nil] at hlen ⊢; omega) (by decide)
        have h2 : Parses (T ([32] ++ ((37 :: ([] ++ ([] ++ ([] ++ ([] ++ [37]))))) ++ ([32] ++ (J ++ [32, 122]))))) (addTo (none, T [37]) ((q :: rs).map pairR)) (n + 1) :=
          parses_plain rfl (by simp only [List.length_append, List.length_cons, List.length_nil] at hlen ⊢; omega) (by decide) (by decide) (by decide) (by decide) (by decide) (by decide) hP
        rw [show addTo (none, T [37]) ((q :: rs).map pairR) = (q :: rs).map pairR from rfl] at h2
        refine ⟨n + 1 + 1, by simp only [List.length_cons] at hn ⊢; omega, parses_row (hg r List.mem_cons_self) hl' hsz hpre h2⟩
      · obtain ⟨n, hn, hP⟩ := ih b _ rfl (by simp only [List.length_append, List.length_cons, List.length_nil] at hlen ⊢; omega) (fun x hx h => h37 (h ▸ hx))
        exact ⟨n + 1, by simp only [List.length_cons] at hn ⊢; omega, parses_row (hg r List.mem_cons_self) hl' hsz hpre hP⟩

theorem RowGood.fits {r : Row} (h : RowGood r) : RowFits r := by
  obtain ⟨h1, ⟨c, _, h2⟩, h3⟩ := h
  refine ⟨h1, ?_, fun n hn => ?_⟩
  · rw [h2]; exact Nat.le_of_ble_eq_true rfl
  · obtain ⟨cs, hcs, rfl⟩ := h3 n hn
    have : cs.length ≤ 100 := (show ∀ cs ∈ Names, cs.length ≤ 100 by decide) cs hcs
    show cs.toArray.size ≤ 100
    rw [List.size_toArray]; exact this
theorem parses_joined {b : List Nat} (hb : b ∈ Btws) (rs : List Row) (hg : ∀ r ∈ rs, RowGood r) (hl : rs.length ≤ 100) : ∃ n, n ≤ 200 ∧ Parses (joinedOf rs (T b)) (rs.map pairR) n := by
  have hbl : (T b).length ≤ 100 := (show ∀ b ∈ Btws, (T b).length ≤ 100 by decide) b hb
  have hjl := joined_len (btw := T b) (fun r hr => (hg r hr).fits) hl hbl
  have e : joinedOf rs (T b) = T ([97] ++ ((Str.join (T b) (rs.map rowText)).cps.toList ++ [32, 122])) := by
    have ej : Txt.join (T b) (rs.map rowText) = Str.join (T b) (rs.map rowText) := StrLaws.glued_eq_join _ _
    unfold joinedOf
    rw [ej, ← T_toList (Str.ofString "a" ++ _ ++ _), app_toList, app_toList, List.append_assoc]
    rfl
  have ej : Txt.join (T b) (rs.map rowText) = Str.join (T b) (rs.map rowText) := StrLaws.glued_eq_join _ _
  rw [ej] at hjl
  have hjl' : (Str.join (T b) (rs.map rowText)).cps.toList.length ≤ 40000 := hjl
  obtain ⟨n, hn, hP⟩ := parses_tail hb rs hg [97] _ rfl (by simp only [List.length_append, List.length_cons, List.length_nil]; omega) (by decide)
  exact ⟨n, by omega, by rw [e]; exact hP⟩
end Mine
end
section
open PySem PySem.W PyProof.Rows
set_option maxRecDepth 100000
set_option maxHeartbeats 800000
namespace Mine
open PySem.Calls PyProof.V PySem.Spec

theorem str_ext {a b : Str} (h : a.cps.toList = b.cps.toList) : a = b := by
  cases a with
  | mk a => cases b with
    | mk b =>
      have : a = b := Array.toList_inj.mp h
      rw [this]
theorem go_compat : ∀ c ∈ Letters, ∀ d ∈ Letters, goS (T [c]) (T [d]) = compat (T [c]) (T [d]) := by decide +kernel
structure PairGood (p : Pair) : Prop where
  letter : ∃ c ∈ Letters, p.2 = T [c]
  name : ∀ n, p.1 = some n → ∃ cs ∈ Names, n = T cs
theorem go_good {p q : Pair} (hp : PairGood p) (hq : PairGood q) : goS p.2 q.2 = compat p.2 q.2 := by
  obtain ⟨c, hc, e⟩ := hp.letter
  obtain ⟨d, hd, e'⟩ := hq.letter
  rw [e, e']
  exact go_compat c hc d hd
theorem msg_eq (n x y : Str) : badMsg n x y = wordOf x n y := by
  apply str_ext
  unfold badMsg wordOf quoted
  simp only [app_toList]
  rw [show Str.empty.cps.toList = [] from rfl, show (Str.ofString "incompatible format for placeholder ").cps.toList = ("incompatible format for placeholder " : Str).cps.toList from rfl,
    show (": '" : Str).cps.toList = (Str.ofString ": ").cps.toList ++ ("'" : Str).cps.toList from by decide +kernel,
    show ("' and '" : Str).cps.toList = ("'" : Str).cps.toList ++ ((Str.ofString " and ").cps.toList ++ ("'" : Str).cps.toList) from by decide +kernel,
    show ("' are not compatible" : Str).cps.toList = ("'" : Str).cps.toList ++ (Str.ofString " are not compatible").cps.toList from by decide +kernel]
  simp only [List.append_assoc, List.nil_append]
theorem unk_eq (n : Str) : unkMsg n = "unknown named placeholder '" ++ n ++ "'" := by
  apply str_ext
  unfold unkMsg quoted
  simp only [app_toList]
  rw [show Str.empty.cps.toList = [] from rfl,
    show ("unknown named placeholder '" : Str).cps.toList = (Str.ofString "unknown named placeholder ").cps.toList ++ ("'" : Str).cps.toList from by decide +kernel]
  simp only [List.append_assoc, List.nil_append]
theorem pos_eq : ∀ (i : Nat) (ps qs : List Pair), (∀ p ∈ ps, PairGood p) → (∀ q ∈ qs, PairGood q) → duePos i ps qs = (badPos i ps qs).getD ""
  | _, [], _, _, _ => rfl
  | _, _ :: _, [], _, _ => rfl
  | i, p :: ps, q :: qs, hp, hq => by
    have hc := go_good (hp p List.mem_cons_self) (hq q List.mem_cons_self)
    have ih := pos_eq (i + 1) ps qs (fun x hx => hp x (List.mem_cons_of_mem _ hx)) (fun x hx => hq x (List.mem_cons_of_mem _ hx))
    cases h : compat p.2 q.2 with
    | true =>
      rw [duePos_ok (hc.trans h), ih]
      show _ = ((if compat p.2 q.2 then badPos (i + 1) ps qs else _) : Option Str).getD ""
      rw [if_pos h]
    | false =>
      rw [duePos_bad (hc.trans h), ← msg_eq]
      show _ = ((if compat p.2 q.2 then badPos (i + 1) ps qs else some (badMsg _ _ _)) : Option Str).getD ""
      rw [if_neg (by rw [h]; simp)]
      rfl
theorem look_good {ps : List Pair} (h : ∀ p ∈ ps, PairGood p) {n z : Str} (hz : lookP ps n = some z) : ∃ c ∈ Letters, z = T [c] := by
  obtain ⟨p, hp, e⟩ := lookP_mem hz
  rw [← e]
  exact (h p hp).letter
theorem name_eq {f : Str → Option Str} (hf : ∀ n z, f n = some z → ∃ c ∈ Letters, z = T [c]) : ∀ (qs : List Pair), (∀ q ∈ qs, PairGood q) → dueName f qs = (badName f qs).getD ""
  | [], _ => rfl
  | q :: qs, hq => by
    have ih := name_eq hf qs fun x hx => hq x (List.mem_cons_of_mem _ hx)
    have hg := hq q List.mem_cons_self
    obtain ⟨nm, y⟩ := q
    cases nm with
    | none => rfl
    | some n =>
      cases hz : f n with
      | none => rw [dueName_none hz, badName_none hz, unk_eq]; rfl
      | some z =>
        obtain ⟨c, hc, e⟩ := hf n z hz
        have hgo : goS y z = compat y z := go_good (p := (some n, y)) (q := (none, z)) hg ⟨⟨c, hc, e⟩, fun _ h => nomatch h⟩
        cases h : compat y z with
        | true => rw [dueName_ok hz (hgo.trans h), badName_ok hz h, ih]
        | false => rw [dueName_bad hz (hgo.trans h), badName_bad hz h, msg_eq]; rfl
theorem due_valid (ps qs : List Pair) (hp : ∀ p ∈ ps, PairGood p) (hq : ∀ q ∈ qs, PairGood q) : dueS ps qs = (validS ps qs).getD "" := by
  cases ps with
  | nil => rfl
  | cons p ps =>
    cases h1 : mixes (p :: ps) with
    | true =>
      rw [valid1 h1]
      unfold dueS
      rw [h1]; rfl
    | false =>
      cases h2 : mixes qs with
      | true =>
        rw [valid2 h1 h2]
        unfold dueS
        rw [h1, h2]; rfl
      | false =>
        rw [valid3 h1 h2, dueS_t (List.cons_ne_nil _ _) h1 h2]
        unfold dueT validT
        split
        · rfl
        split
        · rfl
        split
        · split
          · exact pos_eq 0 _ _ hp hq
          · rfl
        · exact name_eq (fun n z h => look_good hp h) qs hq
theorem easy_letter {c : Nat} (h : c ∈ Letters) : Easy (T [c]) :=
  ⟨(show ∀ c ∈ Letters, reprText (T [c]) = quoted (T [c]) by decide +kernel) c h, by show 1 ≤ 10; decide⟩
theorem easy_name {cs : List Nat} (h : cs ∈ Names) : Easy (T cs) :=
  ⟨(show ∀ cs ∈ Names, reprText (T cs) = quoted (T cs) by decide +kernel) cs h, (show ∀ cs ∈ Names, (T cs).length ≤ 10 by decide +kernel) cs h⟩
theorem RowGood.pair {r : Row} (h : RowGood r) : PairGood (r.name, r.letter) := ⟨h.letter, h.name⟩
theorem prs_good {rs : List Row} (h : ∀ r ∈ rs, RowGood r) : ∀ p ∈ prs rs, PairGood p := fun p hp => by
  obtain ⟨r, hr, rfl⟩ := List.mem_map.mp hp
  exact (h r hr).pair
theorem PairGood.easy {p : Pair} (h : PairGood p) : Easy p.2 ∧ ∀ z ∈ p.1, Easy z := by
  obtain ⟨⟨c, hc, e⟩, hn⟩ := h
  refine ⟨e ▸ easy_letter hc, fun z hz => ?_⟩
  obtain ⟨cs, hcs, e'⟩ := hn z hz
  exact e' ▸ easy_name hcs
theorem RowGood.len {r : Row} (h : RowGood r) : RowLen r := by
  have he := h.pair.easy
  exact ⟨he.1.size, fun n hn => (he.2 n hn).size⟩

/-- the rows of the law -/
theorem letterAt_good {j : Nat} (h : j < 15) : ∃ c ∈ Letters, letterAt (j : Int) = T [c] := by
  have : ∀ j : Fin 15, letterAt (j.val : Int) = T [Letters.getD j.val 0] ∧ Letters.getD j.val 0 ∈ Letters := by decide +kernel
  exact ⟨_, (this ⟨j, h⟩).2, (this ⟨j, h⟩).1⟩
theorem fmod_nat (k : Int) {n : Nat} (h : 0 < n) : ∃ j : Nat, j < n ∧ k.fmod (n : Int) = (j : Int) := by
  have h0 := Int.fmod_nonneg_of_pos k (b := (n : Int)) (by omega)
  have h1 := Int.fmod_lt_of_pos k (b := (n : Int)) (by omega)
  exact ⟨(k.fmod n).toNat, by omega, by omega⟩
theorem letter_mod (k : Int) : ∃ c ∈ Letters, letterAt (k.fmod 15) = T [c] := by
  obtain ⟨j, hj, e⟩ := fmod_nat k (n := 15) (by decide)
  have e' : k.fmod 15 = (j : Int) := e
  rw [e']
  exact letterAt_good hj
theorem names_good : ∀ n ∈ ([menu ["n", "of", "x_1"] 0, menu ["n", "of", "x_1"] 1, menu ["n", "of", "x_1"] 2, "n", "m"] : List Str), ∃ cs ∈ Names, n = T cs := by
  decide +kernel
theorem rowFrom_good {kd c : Int} (h : 0 ≤ c) : RowGood (rowFrom kd c) := by
  refine ⟨?_, letter_mod _, fun n hn => ?_⟩
  · show 0 ≤ c.fdiv 90
    exact Int.fdiv_nonneg h (by decide)
  · have hn' : (if kd = 2 ∨ (kd = 3 ∧ (c.fdiv 45).fmod 2 = 1) then some (menu ["n", "of", "x_1"] (c.fmod 3)) else none) = some n := hn
    split at hn'
    · obtain ⟨j, hj, e⟩ := fmod_nat c (n := 3) (by decide)
      have e' : c.fmod 3 = (j : Int) := e
      rw [e'] at hn'
      rw [← Option.some.inj hn']
      have h3 : j = 0 ∨ j = 1 ∨ j = 2 := by omega
      rcases h3 with rfl | rfl | rfl <;> exact names_good _ (by simp)
    · cases hn'
theorem cellOf_nonneg (ns : List Int) {i : Int} (h : 0 ≤ i) : 0 ≤ cellOf ns i := by
  unfold cellOf
  split
  · split <;> omega
  · omega
theorem firstOf_good (ns : List Int) (n : Nat) : ∀ r ∈ firstOf ns n, RowGood r := fun r hr => by
  unfold firstOf at hr
  obtain ⟨i, _, rfl⟩ := List.mem_map.mp hr
  exact rowFrom_good (cellOf_nonneg ns (by omega))
theorem firstOf_letter (ns : List Int) (n : Nat) : ∀ r ∈ firstOf ns n, 0 ≤ r.num ∧ ∃ j : Nat, j < 15 ∧ r.letter = letterAt (j : Int) := fun r hr => by
  refine ⟨(firstOf_good ns n r hr).num, ?_⟩
  unfold firstOf at hr
  obtain ⟨i, _, rfl⟩ := List.mem_map.mp hr
  obtain ⟨j, hj, e⟩ := fmod_nat ((cellOf ns (2 + 2 * (i : Int))).fdiv 3) (n := 15) (by decide)
  exact ⟨j, hj, congrArg letterAt e⟩
theorem firstOf_len (ns : List Int) (n : Nat) : (firstOf ns n).length = n := by
  unfold firstOf
  rw [List.length_map, List.length_range]
theorem nOf_le (ns : List Int) : nOf ns ≤ 4 := by
  unfold nOf
  obtain ⟨j, hj, e⟩ := fmod_nat (cellOf ns 1) (n := 4) (by decide)
  have e' : (cellOf ns 1).fmod 4 = (j : Int) := e
  rw [e']
  omega
theorem midOf_good (ns : List Int) : ∀ (i : Nat) (rs : List Row), (∀ r ∈ rs, RowGood r) → ∀ r ∈ midOf ns i rs, RowGood r
  | _, [], _, _, h => nomatch h
  | i, q :: rs, hg, r, h => by
    have ih := midOf_good ns (i + 1) rs fun x hx => hg x (List.mem_cons_of_mem _ hx)
    unfold midOf at h
    split at h
    · rcases List.mem_cons.mp h with rfl | h
      · have hq := hg q List.mem_cons_self
        refine ⟨?_, letter_mod _, hq.name⟩
        obtain ⟨j, hj, e⟩ := fmod_nat (cellOf ns (3 + 2 * (i : Int))) (n := 6) (by decide)
        have e' : (cellOf ns (3 + 2 * (i : Int))).fmod 6 = (j : Int) := e
        show 0 ≤ q.num + (cellOf ns (3 + 2 * (i : Int))).fmod 6
        have := hq.num
        omega
      · exact ih r h
    · exact ih r h
theorem midOf_len (ns : List Int) : ∀ (i : Nat) (rs : List Row), (midOf ns i rs).length ≤ rs.length
  | _, [] => Nat.le_refl _
  | i, q :: rs => by
    have ih := midOf_len ns (i + 1) rs
    unfold midOf
    split
    · rw [List.length_cons, List.length_cons]; omega
    · rw [List.length_cons]; omega
theorem lastRow_good {kd : Int} (h : 0 ≤ kd) : RowGood (lastRow kd) := by
  refine ⟨Int.fdiv_nonneg h (by decide), letter_mod _, fun n hn => ?_⟩
  obtain ⟨j, hj, e⟩ := fmod_nat (kd.fdiv 15) (n := 3) (by decide)
  have e' : (kd.fdiv 15).fmod 3 = (j : Int) := e
  have hn' : ([some "n", none, some "m"] : List (Option Str)).getD ((kd.fdiv 15).fmod 3).toNat none = some n := hn
  rw [e'] at hn'
  have h3 : j = 0 ∨ j = 1 ∨ j = 2 := by omega
  rcases h3 with rfl | rfl | rfl
  · rw [← Option.some.inj hn']; exact names_good _ (by simp)
  · cases hn'
  · rw [← Option.some.inj hn']; exact names_good _ (by simp)
theorem secondOf_good (ns : List Int) (rs : List Row) (hg : ∀ r ∈ rs, RowGood r) : ∀ r ∈ secondOf ns rs, RowGood r := fun r hr => by
  have hk : 0 ≤ (cellOf ns 0).fdiv 4 := Int.fdiv_nonneg (cellOf_nonneg ns (by decide)) (by decide)
  have ht : ∀ r ∈ turned ((cellOf ns 0).fdiv 4) (midOf ns 0 rs), RowGood r := fun r hr => by
    unfold turned at hr
    split at hr
    · exact midOf_good ns 0 rs hg r (List.mem_reverse.mp hr)
    · exact midOf_good ns 0 rs hg r hr
  unfold secondOf grown at hr
  split at hr
  · rcases List.mem_append.mp hr with hr | hr
    · exact ht r hr
    · rw [List.mem_singleton.mp hr]; exact lastRow_good hk
  · exact ht r hr
theorem secondOf_len (ns : List Int) (rs : List Row) : (secondOf ns rs).length ≤ rs.length + 1 := by
  have h1 := midOf_len ns 0 rs
  have h2 : (turned ((cellOf ns 0).fdiv 4) (midOf ns 0 rs)).length = (midOf ns 0 rs).length := by
    unfold turned
    split
    · exact List.length_reverse
    · rfl
  unfold secondOf grown
  split
  · rw [List.length_append, h2]; simp only [List.length_singleton]; omega
  · omega
theorem btw_good (k : Int) : ∃ b ∈ Btws, menu [" ", " %% ", "-", ""] (k.fmod 4) = T b := by
  obtain ⟨j, hj, e⟩ := fmod_nat k (n := 4) (by decide)
  have e' : k.fmod 4 = (j : Int) := e
  rw [e']
  have : ∀ j : Fin 4, menu [" ", " %% ", "-", ""] (j.val : Int) = T (Btws.getD j.val []) ∧ Btws.getD j.val [] ∈ Btws := by decide +kernel
  exact ⟨_, (this ⟨j, hj⟩).2, (this ⟨j, hj⟩).1⟩
end Mine
end
section
open PySem PySem.W PyProof.Rows
set_option maxRecDepth 100000
set_option maxHeartbeats 800000
namespace Mine
open PySem.Calls PyProof.V PySem.Spec PySem.Builtin PySem.Builtin.BaseException PySem.Builtin.Str

/-- an exception of an own class that bears one text -/
def OwnExc (h : Heap) (e C : Addr) (x : Str) (tk : Tok) : Prop :=
  ∃ oe ot ws t nt, h.get? e = some oe ∧ h.get? t = some ot ∧ oe.cls = .ref C ∧ oe.data = .fields ws ∧ ws[0]? = some (.ref t) ∧ ot.cls = .type "tuple" ∧ ot.data = .seq #[.str x tk] nt
theorem ownExc_of {h₀ h : Heap} {L e t : Addr} {C : Addr} {x : Str} {tk : Tok} {news : List (Addr × Obj)} (N : News h₀ L h news) (G : Got news e t (.ref C) [.str x tk]) : OwnExc h e C x tk := by
  obtain ⟨oe, ot, ws, nt, h1, h2, hc, hd, h0, htc, htd⟩ := G
  exact ⟨oe, ot, ws, t, nt, (N _ h1).1, (N _ h2).1, hc, hd, h0, htc, htd⟩
theorem OwnExc.kind {M : Model} {h : Heap} {e C : Addr} {x : Str} {tk : Tok} (O : OwnExc h e C x tk) : Looks M h (typeOf (.ref e)) (.ref C) := by
  obtain ⟨oe, _, _, _, _, he, _, hc, _⟩ := O
  rw [← hc]
  exact (Looks.ld he).andThen .now
section
variable {prog : Program} {w : World} {A : Around} {E : Value → Shared → Prop} {s : Shared} {K : Frag} {e C : Addr} {x : Str} {tk : Tok}
theorem own_text {Q : Value → Shared → Prop} (X : K.In s.heap) (O : OwnExc s.heap e C x tk) (hm : mroIn K C (.type "BaseException") = some true) (h : Q (.str x tk) s) :
    wpAny (model prog w) A (call (.builtin "BaseException.__str__") [.ref e]) Q E s := by
  refine wpAny_call (codeAny_call_builtin PySem.F.excStr_Exception.str.plain PySem.F.entry_bexc_str (check_slot (i := "BaseException.__str__") (owner := "BaseException") (n := "__str__") (by decide +kernel) (by decide +kernel) (O.kind.andThen (looks_mroIn X hm)) (PySem.F.args_bexc_str _) ?_))
  obtain ⟨oe, ot, ws, t, nt, he, ht, _, hd, h0, _, htd⟩ := O
  unfold Builtin.«BaseException.__str__»
  refine wpAny_bind (m := slotArgs "__str__" 0 _) (wpAny_pure ?_)
  unfold bexcArgs
  refine wpAny_bind (wpAny_bind (wpAny_field he hd h0 (wpAny_bind (wpAny_seqItems ht htd (wpAny_pure ?_)))))
  refine wpAny_bind (wpAny_rule (wpAny_bind ?_))
  exact wpAny_pure (wpAny_pure h)
theorem own_strOf {Q : Value → Shared → Prop} (hu : A.units < cLine) (X : K.In s.heap) (O : OwnExc s.heap e C x tk) (hs : findIn K (.ref C) "__str__" = some (some (.builtin "BaseException.__str__"))) (hm : mroIn K C (.type "BaseException") = some true) (h : Q (.str x tk) s) :
    wpAny (model prog w) A (Builtin.Str.strOf (.ref e)) Q E s := by
  unfold Builtin.Str.strOf
  rw [show isExactStr (.ref e) = false from rfl]
  refine wpAny_bind (m := cRoomFor _ _) (wpAny_cRoomFor hu ?_)
  refine wpAny_bind (m := callSpecial? (.ref e) (Str.ofString "__str__")) (wpAny_bind (wpAny_bind (O.kind.here ((looks_findIn X hs).here (wpAny_holding (wpAny_bind ((Looks.of_pure (PySem.F.excStr_Exception.str.bind _)).here (wpAny_bind (own_text X O hm ?_)))))))))
  exact wpAny_pure (wpAny_pure h)
theorem own_str {Q : Value → Shared → Prop} (hu : A.units + 2 < cLine) (X : K.In s.heap) (O : OwnExc s.heap e C x tk) (hs : findIn K (.ref C) "__str__" = some (some (.builtin "BaseException.__str__"))) (hm : mroIn K C (.type "BaseException") = some true) (h : Q (.str x tk) s) :
    wpAny (model prog w) A (call (.type "str") [.ref e]) Q E s :=
  callType_new PySem.F.called_str (by decide) (PySem.F.typeCall_str_1 _) (PySem.F.newCall_str_1 _) (fun obj => PySem.F.args_object_init_2 obj _) PySem.F.entry_str_new
    (meets_str_new (S := fun A' R s' => A'.units + 1 < cLine ∧ K.In s'.heap ∧ OwnExc s'.heap e C x tk ∧ R (.ok (.ret (.str x tk))) s')
      fun _ _ A' _ _ hq => own_strOf (A := A'.in1) hq.1 hq.2.1 hq.2.2.1 hs hm hq.2.2.2)
    ⟨(show A.units + 1 + 1 < cLine from hu), X, O, typeIs_str _ _ _, h⟩
end
end Mine
end
section
open PySem PySem.W PyProof.Rows
set_option maxRecDepth 100000
set_option maxHeartbeats 8000000
namespace Mine
open PySem.Calls PyProof.V PySem.Spec

local macro_rules | `(tactic| walk_at "eval Call") => `(tactic| (k_here; k_dflt (refine Call_ ?_)))
local macro_rules | `(tactic| walk_at "call ref") => `(tactic| refine Stop.of ?_)
theorem law_walk : PySem.Challenge.rw_ey0006_01.Holds := Mine.hd (by
  k_with_none
  w_top off
  k_go0
  all_goals (try k_fold)
  k_steps
  refine Stop.on ?_
  rename IntsAre _ _ => hI
  rename Heap.IsList _ _ _ => hL
  rename ¬ _ < _ => hlen
  rename Below _ _ _ _ => B0
  refine Tell.use (first_tells _ _) (by k_asm) (by k_asm) (by k_asm) (by k_asm) (by k_asm) rfl (by ktr_unf; ktr_room) (by ktr_unf; ktr_units) ⟨by omega, _, hL, hI⟩ ?_
  rintro _ tl1 h1 tk1 F1 N1 ⟨a1, v1, k1, rfl, ha1, hr1⟩
  rw [List.append_nil] at N1
  have hg1 := firstOf_good ‹List Int› (nOf ‹List Int›)
  have hl1 : (firstOf ‹List Int› (nOf ‹List Int›)).length ≤ 4 := by rw [firstOf_len]; exact nOf_le _
  have hs1 := firstOf_letter ‹List Int› (nOf ‹List Int›)
  k_steps
  refine Stop.on ?_
  refine Tell.use (second_tells _ a1 _ v1 k1 _) (by k_asm) (by k_asm) (by k_asm) (by k_asm) (by k_asm) rfl (by ktr_unf; ktr_room) (by ktr_unf; ktr_units) ⟨ha1, hr1, hl1, hs1, by omega, _, hL, hI⟩ ?_
  rintro _ tl2 h2 tk2 F2 N2 ⟨a2, v2, k2, rfl, ha2, hr2⟩
  have hg2 := secondOf_good ‹List Int› _ hg1
  have hl2 := secondOf_len ‹List Int› (firstOf ‹List Int› (nOf ‹List Int›))
  replace ha1 := List.mem_append_right tl2 ha1
  replace ha2 := List.mem_append_left tl1 ha2
  replace hr1 := hr1.mono (news' := tl2 ++ tl1) fun p hp => List.mem_append_right _ hp
  replace hr2 := hr2.mono (news' := tl2 ++ tl1) fun p hp => List.mem_append_left _ hp
  generalize tl2 ++ tl1 = objs at N2 ha1 ha2 hr1 hr2
  generalize firstOf ‹List Int› (nOf ‹List Int›) = rs at hg1 hl1 hr1 hr2 hg2 hl2
  generalize secondOf ‹List Int› rs = qs at hr2 hg2 hl2
  k_with "table" => skip
  k_steps
  refine Stop.on ?_
  refine Tell.use (cell_tells _ _ 12 _) (by k_asm) (by k_asm) (by k_asm) (by k_asm) (by k_asm) rfl (by ktr_unf; ktr_room) (by ktr_unf; ktr_units) ⟨by omega, by omega, by omega, _, hL, hI⟩ ?_
  rintro _ tl3 h3 tk3 F3 N3 ⟨rfl, t3, rfl⟩
  rw [List.nil_append] at N3
  k_steps
  refine Stop.on ?_
  obtain ⟨b, hb, hbe⟩ := btw_good (cellOf ‹List Int› 12)
  have hbe' : ([Str.ofString " ", Str.ofString " %% ", Str.ofString "-", Str.ofString ""] : List Str).getD ((cellOf ‹List Int› 12).fmod 4).toNat Str.empty = T b := hbe
  rename Fr _ _ _ _ => F4
  rw [hbe'] at F4 ⊢
  have hbl : (T b).length ≤ 100 := (show ∀ b ∈ Btws, (T b).length ≤ 100 by decide) b hb
  obtain ⟨n1, hn1, hp1⟩ := parses_joined hb rs hg1 (by omega)
  obtain ⟨n2, hn2, hp2⟩ := parses_joined hb qs hg2 (by omega)
  clear hbe hbe'
  refine Tell.use (joined_tells a1 v1 k1 rs (T b) _) (by k_asm) (by k_asm) (by k_asm) (by k_asm) (by k_asm) rfl (by ktr_unf; ktr_room) (by ktr_unf; ktr_units) ⟨List.mem_cons_of_mem _ ha1, hr1.mono fun p hp => List.mem_cons_of_mem _ hp, fun r hr => (hg1 r hr).fits, by omega, hbl⟩ ?_
  rintro _ tl5 h5 tk5 F5 N5 ⟨rfl, t5, rfl⟩
  rw [List.nil_append] at N5
  k_steps
  refine Stop.on ?_
  refine Tell.use (joined_tells a2 v2 k2 qs (T b) _) (by k_asm) (by k_asm) (by k_asm) (by k_asm) (by k_asm) rfl (by ktr_unf; ktr_room) (by ktr_unf; ktr_units) ⟨List.mem_cons_of_mem _ ha2, hr2.mono fun p hp => List.mem_cons_of_mem _ hp, fun r hr => (hg2 r hr).fits, by omega, hbl⟩ ?_
  rintro _ tl6 h6 tk6 F6 N6 ⟨rfl, t6, rfl⟩
  rw [List.nil_append] at N6
  k_steps
  refine Stop.on ?_
  have hp1' : ∀ p ∈ prs rs, PairGood p := prs_good hg1
  have hp2' : ∀ p ∈ prs qs, PairGood p := prs_good hg2
  refine TellR.use (val_tells (joinedOf rs (T b)) (joinedOf qs (T b)) t5 t6 (prs rs) (prs qs) n1 n2 hp1 hp2 (by omega) (by omega) (fun p hp => (hp1' p hp).easy) (fun p hp => (hp2' p hp).easy)) (by k_asm) (by k_asm) (by k_asm) (by k_asm) (by k_asm) rfl (by ktr_unf; ktr_room) (by ktr_unf; ktr_units) trivial ?_ ?_
  · rintro _ tl7 h7 tk7 F7 N7 ⟨hv, rfl⟩
    replace N7 : News _ _ h7 objs := fun p hp => N7 p (List.mem_append_right _ (List.mem_cons_of_mem _ hp))
    k_steps
    refine Stop.on ?_
    refine Tell.use (due_tells a1 a2 v1 v2 k1 k2 rs qs) (by k_asm) (by k_asm) (by k_asm) (by k_asm) (by k_asm) rfl (by ktr_unf; ktr_room) (by ktr_unf; ktr_units) ⟨ha1, ha2, hr1, hr2, by omega, by omega, fun r hr => (hg1 r hr).len, fun r hr => (hg2 r hr).len⟩ ?_
    rintro _ tl8 h8 tk8 F8 N8 ⟨rfl, t8, rfl⟩
    rw [List.nil_append] at N8
    rw [due_valid (prs rs) (prs qs) hp1' hp2', hv]
    k_steps
  · intro e t z tz h7 tk7 g₂ hBad F7 U7 R7
    k_steps
    rename Got _ _ _ _ _ => G7
    refine own_str (K := Mine.hd.heap_39 _) (by ktr_units) (by k_in) (ownExc_of (by k_asm) G7) (by k_is) (by k_is) ?_
    k_steps
    refine Stop.on ?_
    rename News _ _ _ _ => N8
    replace N8 : News _ _ _ objs := fun p hp => N8 p (List.mem_cons_of_mem _ hp)
    refine Tell.use (due_tells a1 a2 v1 v2 k1 k2 rs qs) (by k_asm) (by k_asm) (by k_asm) (by k_asm) (by k_asm) rfl (by ktr_unf; ktr_room) (by ktr_unf; ktr_units) ⟨ha1, ha2, hr1, hr2, by omega, by omega, fun r hr => (hg1 r hr).len, fun r hr => (hg2 r hr).len⟩ ?_
    rintro _ tl9 h9 tk9 F9 N9 ⟨rfl, t9, rfl⟩
    rw [List.nil_append] at N9
    rw [due_valid (prs rs) (prs qs) hp1' hp2', hBad]
    k_steps)
end Mine
end
set_option maxRecDepth 100000 in
set_option maxHeartbeats 8000000 in
theorem PySem.Challenge.cw_ey0006_01_holds : PySem.Challenge.rw_ey0006_01.Holds := by
  exact Mine.law_walk
