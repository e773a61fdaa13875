import PyProof.Rows.All
import Wide.All
import OpenK.AllK
import Wide.FinOn
import PySem.Challenge.RW_ag6020_01
open PySem PySem.W PyProof.Rows PySem.Calls
set_option Elab.async false
set_option maxRecDepth 100000
set_option maxHeartbeats 8000000
namespace Mine
-- HD
open_top hd for PySem.Challenge.rw_ag6020_01
-- Base
/-- what a body hands back: the frame's heap keeps all that stood; Out tells the value and what is new -/
def Back (g : Heap) (L : Addr) (Out : Value → List (Addr × Obj) → Prop) (s : Shared) (v : Value) (s' : Shared) : Prop :=
  ∃ h' tk' m' news', s' = { s with heap := h', toks := tk' } ∧ Fr g L h' m' ∧ News g L h' news' ∧ Out v news'

section
variable {prog : Program} {w : World} {A A₀ : Around} {E Q : Value → Shared → Prop} {s : Shared} {K : Frag} {L : Addr} {h₀ base : Heap} {m mg mb : Str → Option Value} {p : Program} {loose : List Str} {mean : ExcName → Option Value} {news : List (Addr × Obj)}

theorem enterF {env : Env} {outer : List Env} {name qual : Str} {params : Arguments} {body : List Stmt} {scope : Scope} {dV kV doc pm cdv ct oc : Value} {an od : Option Addr} {osl : Array (Option Value)} {f : Addr} {args : List Value} {binds : List (Str × Value)}
    {Out : Value → List (Addr × Obj) → Prop}
    (B : Below A₀ base outer h₀) (F : Fr h₀ L s.heap m) (X₀ : K.In h₀) (N : News h₀ L s.heap news) (T : Top p loose mean mg mb h₀) (hA : A.frames = some (env :: outer)) (hf : env.frame = some L) (hke : env.scope.kind = .function)
    (ho : K.lookup f = some ⟨oc, od, .func (fnOf name qual params body scope dV kV doc pm an cdv ct), osl⟩) (hcd : codeIn K cdv qual = true) (hroom : A.depth < recursionLimit)
    (hbind : BindsTo s (fnOf name qual params body scope dV kV doc pm an cdv ct) ⟨args, []⟩ binds) (hloc : ∀ y ∈ binds, scope.names.lookup y.1 = some .local)
    (hco : scope.isCoroutine = false) (hgen : scope.isGenerator = false) (hk : scope.kind = .function) (hcell : ∀ x ∈ scope.names, x.2 ≠ .cell)
    (h : ∀ h₁, Fr s.heap s.heap.objs.size h₁ (fun y => binds.reverse.lookup y) → News s.heap s.heap.objs.size h₁ [] → Below A base (env :: outer) s.heap → K.In s.heap → Top p loose mean mg mb s.heap →
      wpAny (model prog w) (A.deeper (envOf qual scope s.heap.objs.size f cdv)) (execs body (envOf qual scope s.heap.objs.size f cdv))
        (fun fl s' => Back s.heap s.heap.objs.size Out s (match fl with | .ret v => v | _ => .none) s') (fun _ _ => False)
        { s with heap := h₁, toks := s.toks + binds.length })
    (ret : ∀ v h' tk' news', Fr h₀ L h' m → News h₀ L h' (news' ++ news) → (∀ q ∈ news', s.heap.get? q.1 = none) → s.heap.StaysIn h' → Out v news' → Q v { s with heap := h', toks := tk' }) :
    wpAny (model prog w) A (call (.ref f) args) Q E s := by
  refine wpAny_call (codeAny_call_def (fd := fnOf name qual params body scope dV kV doc pm an cdv ct) (body := body) (binds := binds) hroom ((X₀.keeps F.keep) _ _ ho) rfl (T.nolimit.keeps F.keep) (codeRec_of (X₀.keeps F.keep) hcd) rfl hbind hcell hloc (fun h₁ hns hk₁ => ?_) hco hgen hk)
  have B₁ := pushX B F hf hke
  have B₂ : Below A base (env :: outer) s.heap := ⟨hA, B₁.stays, B₁.frames⟩
  refine wpAny_mono (h h₁ ⟨hns, hk₁, Nat.le_refl _⟩ (fun _ hp => nomatch hp) B₂ (X₀.keeps F.keep) (T.keeps F.keep)) (fun fl s' hl => ?_) fun _ _ x => x.elim
  obtain ⟨h', tk', m', news', rfl, F', N', out⟩ := hl
  have key : ∀ v, Out v news' → Q v { s with heap := h', toks := tk' } := fun v ho' => by
    obtain ⟨oL, es, ep, hL, hLd, hLk, hLf⟩ := F.ns
    refine ret v h' tk' news' ⟨⟨oL, es, ep, F'.keep L oL hL, hLd, hLk, hLf⟩, fun b o e => F'.keep b o (F.keep b o e), F.above⟩ (fun q hq => ?_) (fun q hq => (N' q hq).2.2) F'.keep ho'
    rcases List.mem_append.mp hq with hq | hq
    · refine ⟨(N' q hq).1, fun e => ?_, ?_⟩
      · have := (N' q hq).2.2; rw [e, hL] at this; cases this
      · cases e : h₀.get? q.1 with
        | none => rfl
        | some o => have := (N' q hq).2.2; rw [F.keep _ _ e] at this; cases this
    · exact ⟨F'.keep _ _ (N q hq).1, (N q hq).2.1, (N q hq).2.2⟩
  exact key _ out
end
-- Base2
abbrev PR : Program := PySem.Challenge.rw_ag6020_01.row.prog
abbrev Tp (mean : ExcName → Option Value) (mg mb : Str → Option Value) (h : Heap) : Prop := Top hd.view_39 (looseW hd.view_39 []) mean mg mb h
abbrev ctxA (d u : Nat) (env : Env) (outer : List Env) : Around := { handled := none, depth := d, frames := some (env :: outer), guards := some [], units := u }

theorem weaken {α : Type} {M : Model} {A : Around} {t : Sem α} {Q : α → Shared → Prop} {E : Value → Shared → Prop} {s : Shared} {d u : Nat} {env : Env} {outer : List Env}
    (h1 : A.handled = none) (h2 : A.frames = some (env :: outer)) (h3 : A.guards = some []) (h4 : A.depth ≤ d) (h5 : A.units ≤ u)
    (h : wpAny M (ctxA d u env outer) t Q E s) : wpAny M A t Q E s := fun Γ p hΓ => by
  obtain ⟨a1, a2, a3, a4, a5⟩ := hΓ
  refine h Γ p ⟨a1.trans h1, Nat.le_trans a2 h4, fun l hl => a3 l ?_, fun g hg => a4 g ?_, Nat.le_trans a5 h5⟩
  · rw [h2]; exact hl
  · rw [h3]; exact hg

/-- the entry of a def of the text, its body left -/
local macro_rules | `(tactic| walk_at "f_enter") => `(tactic| (
  (rename (Value → List (Addr × Obj) → Prop) => oO)
  refine' enterF (Out := oO) ?k1 ?k2 ?k3 ?kN ?k4 ?kA ?kF ?kK ?k6 ?k7 ?k8 ?k9 ?kB ?c2 ?c3 ?c4 ?c5 ?_ ?ret
  (case kA => exact rfl)
  (case kF => assumption)
  (case kK => assumption)
  (case k1 => assumption)
  (case k2 => assumption)
  (case k3 => assumption)
  (case k4 => assumption)
  (case kN => assumption)
  (case k6 => k_is)
  (case k7 => k_is)
  (case k8 => exact Nat.le_of_ble_eq_true rfl)
  (case k9 => exact BindsTo.of_eq rfl)
  (case c5 => decide)
  (case kB => exact locs rfl)
  (case c2 => exact rfl)
  (case c3 => exact rfl)
  (case c4 => exact rfl)))
local macro_rules | `(tactic| walk_at "prime") => `(tactic| ((have kf : PySem.Challenge.rw_ag6020_01.Holds → hd.heap_39 = hd.heap_39 → True := (by k_fill; intro _ _; trivial)); clear kf; w_top off))
-- Base3
/-- a stop of the walk -/
structure HaltP (P : Prop) : Prop where
  out : P
theorem haltP_in {P : Prop} (h : HaltP P) : P := h.out
theorem haltP_out {P : Prop} (h : P) : HaltP P := ⟨h⟩
theorem halt_in {P : Prop} (h : HaltP P) : P := h.out
theorem halt_out {P : Prop} (h : P) : HaltP P := ⟨h⟩
local macro_rules | `(tactic| walk_at "exec While Compare cons nil") => `(tactic| (refine halt_in ?_))
local macro_rules | `(tactic| walk_at "exec While BoolOp cons nil") => `(tactic| (refine halt_in ?_))
local macro_rules | `(tactic| walk_at "exec While Name cons nil") => `(tactic| (refine halt_in ?_))
local macro_rules | `(tactic| walk_at "exec For Name Name cons nil") => `(tactic| (k_here; (rename Fr _ _ _ _ => lF'); (with_unfolding_all refine' For_invVF lF' ?k1 ?k2 ?_; (case k1 => exact rfl); (case k2 => exact rfl); k_whole)))
local macro_rules | `(tactic| walk_at "exec For Name Call cons nil") => `(tactic| (k_here; (rename Fr _ _ _ _ => lF'); (with_unfolding_all refine' For_invVF lF' ?k1 ?k2 ?_; (case k1 => exact rfl); (case k2 => exact rfl); k_whole)))
local macro_rules | `(tactic| walk_at "pyIter ref") => `(tactic| (refine halt_in ?_))
local macro_rules | `(tactic| walk_at "pyIter str") => `(tactic| (refine halt_in ?_))
local macro_rules | `(tactic| walk_at "call builtin:list.append") => `(tactic| (k_here; (with_reducible show wpAny _ _ (call (Value.builtin _) [Value.ref _, _]) _ _ _); k_dflt (refine' append_K ?k1 ?k2 ?k3 ?_ ?z; (case k1 => k_asm); (case k2 => k_asm); (case k3 => k_upd); (case z => ((try simp only [List.size_toArray]); (have hz := sizeLine_eq); omega)); k_whole); intro h' F' N'; (try k_sweep)))
local macro_rules | `(tactic| walk_at "KswEnd") => `(tactic| (refine haltP_in ?_))
local macro_rules | `(tactic| walk_at "InvEndN") => `(tactic| (refine haltP_in ?_))
local macro_rules | `(tactic| walk_at "Back") => `(tactic| (refine haltP_in ?_))
local macro_rules | `(tactic| walk_at "mine same") => `(tactic| (intro z h2 h3; (try simp only [List.forall_mem_cons, List.not_mem_nil, false_implies, implies_true, and_true, ne_eq] at h2); (try simp only [List.contains_cons, List.contains_nil, Bool.or_false, Bool.or_eq_false_iff, beq_eq_false_iff_ne, ne_eq] at h3); first | (with_reducible rfl) | (simp only [kstB, h2, h3, if_false, if_true, List.contains_nil, List.contains_cons, Bool.or_false]; done) | (simp [kstB, h2, h3]; done)))
local macro_rules | `(tactic| walk_at "mine steps") => `(tactic| repeat' (first | (k_unfold; (try dsimp only)) | walk1 | (dsimp only; first | walk1 | (k_unfold; (try dsimp only))) | (leave1; walk_say "STEP leave1"; (try dsimp only)) | fail "no step"))
theorem plainly {α : Type} {M : Model} {A : Around} {t : Sem α} {Q : α → Shared → Prop} {E : Value → Shared → Prop} {s : Shared} (h : wpAny M A t Q E s) : wpAny M A t Q E s := h
local macro_rules | `(tactic| walk_at "mine go") => `(tactic| (refine plainly ?_; (try k_fold); walk_at "mine steps"))
local macro_rules | `(tactic| walk_at "mine back") => `(tactic| (refine haltP_out ?_; (show Back _ _ _ _ _ _); refine ⟨_, _, _, _, rfl, by assumption, by assumption, ?_⟩))
section
variable {prog : Program} {w : World} {A : Around} {E : Value → Shared → Prop} {s : Shared} {env : Env} {test : PySem.Expr} {body : List Stmt} {Q : Flow → Shared → Prop}
/-- a while whose test is false at once -/
theorem while_skip {pos : Pos} (h : wpAny (model prog w) A (isTrue test env (eval test env)) (fun b s₂ => if b = true then False else Q .next s₂) E s)
    (hE : PassesOwn (model prog w) A env E := by passes_own) : wpAny (model prog w) A (exec (.While test body [] pos) env) Q E s := by
  refine whl_start 1 (whl_turn hE (wpAny_mono h (fun b s₂ h₂ => ?_) fun _ _ x => x))
  cases b with
  | true => rw [if_pos rfl] at h₂; exact h₂.elim
  | false => rw [if_neg Bool.false_ne_true] at h₂; exact WhlIf.no rfl (wpAny_execs_nil h₂)
end
theorem ite_negF {b : Bool} {P Q : Prop} (h : b = false) (k : Q) : if b = true then P else Q := by
  rw [if_neg (by rw [h]; exact Bool.false_ne_true)]; exact k
theorem ite_posT {b : Bool} {P Q : Prop} (h : b = true) (k : P) : if b = true then P else Q := by
  rw [if_pos h]; exact k
local macro_rules | `(tactic| walk_at "ite") => `(tactic| first | (with_reducible refine ite_posT (by with_reducible assumption) ?_) | (with_reducible refine ite_negF (by with_reducible assumption) ?_))
theorem name1 {g h : Heap} {L l : Addr} {o : Obj} {r : List (Addr × Obj)} (_ : News g L h ((l, o) :: r)) : ∃ y, y = l := ⟨_, rfl⟩
theorem name2 {g h : Heap} {L l l2 : Addr} {o o2 : Obj} {r : List (Addr × Obj)} (_ : News g L h ((l, o) :: (l2, o2) :: r)) : ∃ y, y = l2 := ⟨_, rfl⟩
theorem name3 {g h : Heap} {L l l2 l3 : Addr} {o o2 o3 : Obj} {r : List (Addr × Obj)} (_ : News g L h ((l, o) :: (l2, o2) :: (l3, o3) :: r)) : ∃ y, y = l3 := ⟨_, rfl⟩
theorem item_ne {T : Str} {i : Int} {c : Nat} (h0 : 0 ≤ i) (h1 : i < T.length) (hc : T.cps.getD i.toNat 0 ≠ c) : (Txt.item T i == (⟨#[c]⟩ : Str)) = false := by
  rw [PySem.W.item_meets ⟨h0, h1⟩, beq_eq_false_iff_ne]
  intro e
  injection e with e
  exact hc (by simpa using e)
theorem item_eqc {T : Str} {i : Int} {c : Nat} (h0 : 0 ≤ i) (h1 : i < T.length) (hc : T.cps.getD i.toNat 0 = c) : Txt.item T i = (⟨#[c]⟩ : Str) := by
  rw [PySem.W.item_meets ⟨h0, h1⟩, hc]
theorem str_dash : (PySem.Str.ofString "-") = ⟨#[45]⟩ := by decide +kernel
theorem str_blank : (PySem.Str.ofString " ") = ⟨#[32]⟩ := by decide +kernel
theorem str_tab : (PySem.Str.ofString "\t") = ⟨#[9]⟩ := by decide +kernel
theorem str_none : (PySem.Str.ofString "") = ⟨#[]⟩ := by decide +kernel
theorem bne_t {x y : Str} (h : (x == y) = false) : (x != y) = true := by rw [bne, h]; rfl
theorem bne_f {x y : Str} (h : (x == y) = true) : (x != y) = false := by rw [bne, h]; rfl
theorem item_is {T : Str} {i : Int} {c : Nat} (h0 : 0 ≤ i) (h1 : i < T.length) (hc : T.cps.getD i.toNat 0 = c) : (Txt.item T i == (⟨#[c]⟩ : Str)) = true := by
  rw [item_eqc h0 h1 hc]; exact beq_self_eq_true _
theorem item_blank {T : Str} {i : Int} (h0 : 0 ≤ i) (h1 : i < T.length) (hc : T.cps.getD i.toNat 0 = 32) : (Txt.item T i == PySem.Str.ofString " ") = true := by
  rw [str_blank]; exact item_is h0 h1 hc
theorem item_noblank {T : Str} {i : Int} (h0 : 0 ≤ i) (h1 : i < T.length) (hc : T.cps.getD i.toNat 0 ≠ 32) : (Txt.item T i == PySem.Str.ofString " ") = false := by
  rw [str_blank]; exact item_ne h0 h1 hc
theorem item_nodash {T : Str} {i : Int} (h0 : 0 ≤ i) (h1 : i < T.length) (hc : T.cps.getD i.toNat 0 ≠ 45) : (Txt.item T i == PySem.Str.ofString "-") = false := by
  rw [str_dash]; exact item_ne h0 h1 hc
-- D1
section
theorem dashes_use {w : World} {A A₀ : Around} {base h₀ : Heap} {env : Env} {outer : List Env} {L : Addr} {m mg mb : Str → Option Value} {mean : ExcName → Option Value} {news : List (Addr × Obj)} {s : Shared} {E Q : Value → Shared → Prop}
    {T : Str} {i : Int} {t1 t2 : Tok}
    (B : Below A₀ base outer h₀) (F : Fr h₀ L s.heap m) (X : (hd.heap_39 w.params).In h₀) (N : News h₀ L s.heap news) (Tt : Tp mean mg mb h₀)
    (a1 : A.handled = none) (a2 : A.frames = some (env :: outer)) (a3 : A.guards = some []) (a4 : A.depth ≤ 400) (a5 : A.units ≤ 1000) (hf : env.frame = some L) (hke : env.scope.kind = .function)
    (h0 : 0 ≤ i) (h1 : i < T.length) (hsz : T.length ≤ 100000) (hc : T.cps.getD i.toNat 0 ≠ 45)
    (ret : ∀ h' tk', Fr h₀ L h' m → News h₀ L h' news → Q (.bool false) { s with heap := h', toks := tk' }) :
    wpAny (model PR w) A (call (.ref 35) [.str T t1, .int i t2]) Q E s := by
  refine weaken (d := 400) (u := 1000) a1 a2 a3 a4 a5 ?_
  walk_at "prime"
  let Out : Value → List (Addr × Obj) → Prop := fun v nx => v = .bool false ∧ nx = []
  walk_at "f_enter"
  case ret =>
    intro v h' tk' news' F' N' hn hst ho
    have e : v = .bool false := ho.1
    subst e
    exact ret _ _ F' fun p hp => N' p (List.mem_append_right _ hp)
  intro h₁ F' N' B' X' T'
  clear B F X N Tt a1 a2 a3 a4 a5 hf hke ret
  (try dsimp only)
  k_fold
  walk_at "mine steps"
  refine halt_out ?_
  (rename Fr _ _ _ _ => F)
  (rename News _ _ _ _ => N)
  refine ksw_while (σ := Unit) (fun _ => []) (fun _ => [(Str.ofString "end", .int i t2)]) (fun _ => True) [] (fun _ => True) (fun _ => 0) () F N trivial (by kst_all) trivial ?_
  intro c u h tk _ _ F N
  k_fold
  walk_at "mine steps"
  · rename (_ = true) => hq
    rw [str_dash, item_ne h0 h1 hc] at hq
    exact absurd hq (by decide)
  · walk_at "mine back"
    exact ⟨by simp, rfl⟩
end
-- Plain0
/-- a text of the codes -/
def S (l : List Nat) : PySem.Str := ⟨l.toArray⟩
def joinW : List (List Nat) → List Nat
  | [] => []
  | [w] => w
  | w :: r => w ++ 32 :: joinW r
def inter : List (List Nat) → List (List Nat)
  | [] => []
  | [w] => [w]
  | w :: r => w :: [32] :: inter r
def Good (w : List Nat) : Prop := w ≠ [] ∧ ∀ c ∈ w, 97 ≤ c ∧ c ≤ 122
theorem S_length (l : List Nat) : (S l).length = l.length := by simp [S, PySem.Str.length]
theorem S_append (a b : List Nat) : S a ++ S b = S (a ++ b) := by
  refine PySem.Str.ext' ?_
  rw [PySem.Str.cps_append]; simp [S]
theorem S_getD (l : List Nat) (i : Nat) : (S l).cps.getD i 0 = l.getD i 0 := by
  simp [S, Array.getD_eq_getD_getElem?, List.getD_eq_getElem?_getD]
theorem S_inj {a b : List Nat} (h : S a = S b) : a = b := by
  injection h with h; simpa using congrArg Array.toList h
theorem inter_flatten : ∀ ws, (inter ws).flatten = joinW ws
  | [] => rfl
  | [w] => by simp [inter, joinW]
  | w :: x :: r => by
    have ih := inter_flatten (x :: r)
    show w ++ ([32] ++ (inter (x :: r)).flatten) = w ++ 32 :: joinW (x :: r)
    rw [ih]; rfl
theorem str_3blank : PySem.Str.ofString "   " = S [32,32,32] := by decide +kernel
theorem str_tabS : PySem.Str.ofString "\t" = S [9] := by decide +kernel
theorem str_blankS : PySem.Str.ofString " " = S [32] := by decide +kernel
theorem str_noneS : PySem.Str.ofString "" = S [] := by decide +kernel
theorem inter_cons2 (w x : List Nat) (r : List (List Nat)) : inter (w :: x :: r) = w :: [32] :: inter (x :: r) := rfl
theorem inter_mem : ∀ {ws : List (List Nat)} {x : List Nat}, x ∈ inter ws → x = [32] ∨ x ∈ ws
  | [], _, h => nomatch h
  | [w], _, h => .inr h
  | w :: y :: r, x, h => by
    rw [inter_cons2] at h
    rcases List.mem_cons.mp h with rfl | h
    · exact .inr (.head _)
    rcases List.mem_cons.mp h with rfl | h
    · exact .inl rfl
    exact (inter_mem h).imp id fun h => .tail _ h
/-- a place in the chunks: the chunk is a blank, a word behind it; or a word, a blank or nothing behind it -/
theorem inter_at : ∀ {ws : List (List Nat)} (hw : ∀ x ∈ ws, Good x) {dn rs : List (List Nat)} {c : List Nat}, dn ++ c :: rs = inter ws →
    (c = [32] ∧ ∃ w r, rs = w :: r ∧ Good w) ∨ (Good c ∧ (rs = [] ∨ ∃ r, rs = [32] :: r))
  | [], _, dn, _, _, h => by cases dn <;> cases h
  | [w], hw, dn, rs, c, h => by
    cases dn with
    | nil => cases h; exact .inr ⟨hw _ (.head _), .inl rfl⟩
    | cons d dn => cases dn <;> cases h
  | w :: y :: r, hw, dn, rs, c, h => by
    rw [inter_cons2] at h
    cases dn with
    | nil => cases h; exact .inr ⟨hw _ (.head _), .inr ⟨_, rfl⟩⟩
    | cons d dn =>
      injection h with _ h
      cases dn with
      | nil =>
        injection h with h1 h2
        refine .inl ⟨h1, ?_⟩
        cases r with
        | nil => exact ⟨y, [], h2, hw _ (.tail _ (.head _))⟩
        | cons z r => exact ⟨y, _, h2, hw _ (.tail _ (.head _))⟩
      | cons d' dn =>
        injection h with _ h
        exact inter_at (fun x hx => hw x (.tail _ hx)) h
theorem getD_mid (p c q : List Nat) (k : Nat) (hk : k < c.length) : (p ++ (c ++ q)).getD (p.length + k) 0 = c.getD k 0 := by
  simp only [List.getD_eq_getElem?_getD]
  rw [List.getElem?_append_right (by omega), Nat.add_sub_cancel_left, List.getElem?_append_left hk]
theorem getD_end (p c q : List Nat) : (p ++ (c ++ q)).getD (p.length + c.length) 0 = q.getD 0 0 := by
  simp only [List.getD_eq_getElem?_getD]
  rw [List.getElem?_append_right (by omega), Nat.add_sub_cancel_left, List.getElem?_append_right (by omega), Nat.sub_self]
theorem good_at {c : List Nat} (h : Good c) {k : Nat} (hk : k < c.length) : 97 ≤ c.getD k 0 ∧ c.getD k 0 ≤ 122 := by
  have := h.2 (c.getD k 0) (by rw [List.getD_eq_getElem?_getD, List.getElem?_eq_getElem hk]; exact List.getElem_mem hk)
  exact this
theorem good_pos {c : List Nat} (h : Good c) : 0 < c.length := List.length_pos_iff.mpr h.1
def pad (ws : List (List Nat)) : List Nat := [32,32,32] ++ joinW ws ++ [32,32,32]
theorem pad_length (ws : List (List Nat)) : (pad ws).length = (joinW ws).length + 6 := by simp [pad]
theorem pad_eq {ws dn rs : List (List Nat)} {c : List Nat} (h : dn ++ c :: rs = inter ws) : pad ws = ([32,32,32] ++ dn.flatten) ++ (c ++ (rs.flatten ++ [32,32,32])) := by
  unfold pad
  rw [← inter_flatten, ← h]
  simp
theorem joinW_len {ws dn rs : List (List Nat)} {c : List Nat} (h : dn ++ c :: rs = inter ws) : (joinW ws).length = dn.flatten.length + c.length + rs.flatten.length := by
  rw [← inter_flatten, ← h]
  simp; omega
structure TurnB (T : PySem.Str) (a : Int) (ws : List (List Nat)) : Prop where
  here : T.cps.getD a.toNat 0 = 32
  next : T.cps.getD (a + 1).toNat 0 ≠ 32
  nextd : T.cps.getD (a + 1).toNat 0 ≠ 45
  le : a + 1 < 3 + (joinW ws).length
structure TurnW (T : PySem.Str) (a : Int) (c : List Nat) (ws : List (List Nat)) : Prop where
  here : ∀ k : Int, a ≤ k → k < a + c.length → T.cps.getD k.toNat 0 ≠ 32 ∧ T.cps.getD k.toNat 0 ≠ 45
  next : T.cps.getD (a + c.length).toNat 0 = 32
  le : a + c.length ≤ 3 + (joinW ws).length
  pos : 0 < c.length
theorem turn_of {ws dn rs : List (List Nat)} {c : List Nat} {a : Int} (hw : ∀ x ∈ ws, Good x) (h : dn ++ c :: rs = inter ws) (ha : a = 3 + (dn.flatten.length : Int)) :
    (c = [32] ∧ TurnB (S (pad ws)) a ws) ∨ (TurnW (S (pad ws)) a c ws) := by
  have hp := pad_eq h
  have hl := joinW_len h
  have hpl : ([32,32,32] ++ dn.flatten).length = a.toNat := by rw [List.length_append]; simp only [List.length_cons, List.length_nil]; omega
  have ha0 : 0 ≤ a := by omega
  rcases inter_at hw h with ⟨rfl, w, r, rfl, gw⟩ | ⟨gc, hr⟩
  · refine .inl ⟨rfl, ?_, ?_, ?_, ?_⟩
    · rw [S_getD, hp, ← hpl]; exact getD_mid _ [32] _ 0 (by decide)
    · rw [S_getD, hp, show (a + 1).toNat = ([32,32,32] ++ dn.flatten).length + [32].length from by rw [hpl]; simp; omega, getD_end]
      have := good_at gw (good_pos gw)
      have e : (((w :: r).flatten ++ [32,32,32]) : List Nat).getD 0 0 = w.getD 0 0 := by
        obtain ⟨x, w', rfl⟩ := List.exists_cons_of_ne_nil gw.1
        rfl
      rw [e]; omega
    · rw [S_getD, hp, show (a + 1).toNat = ([32,32,32] ++ dn.flatten).length + [32].length from by rw [hpl]; simp; omega, getD_end]
      have := good_at gw (good_pos gw)
      have e : (((w :: r).flatten ++ [32,32,32]) : List Nat).getD 0 0 = w.getD 0 0 := by
        obtain ⟨x, w', rfl⟩ := List.exists_cons_of_ne_nil gw.1
        rfl
      rw [e]; omega
    · have := good_pos gw
      simp only [List.length_cons, List.length_nil, List.flatten_cons, List.length_append] at hl; omega
  · refine .inr ⟨fun k h1 h2 => ?_, ?_, ?_, good_pos gc⟩
    · have hk : (k - a).toNat < c.length := by omega
      have := good_at gc hk
      have e : k.toNat = ([32,32,32] ++ dn.flatten).length + (k - a).toNat := by rw [hpl]; omega
      rw [S_getD, hp, e, getD_mid _ _ _ _ hk]
      omega
    · rw [S_getD, hp, show (a + c.length).toNat = ([32,32,32] ++ dn.flatten).length + c.length from by rw [hpl]; omega, getD_end]
      rcases hr with rfl | ⟨r, rfl⟩ <;> rfl
    · omega
theorem slice_of {ws dn rs : List (List Nat)} {c : List Nat} (h : dn ++ c :: rs = inter ws) : ((pad ws).drop (3 + dn.flatten.length)).take c.length = c := by
  have hpl : ([32,32,32] ++ dn.flatten).length = 3 + dn.flatten.length := by rw [List.length_append]; simp only [List.length_cons, List.length_nil]
  rw [pad_eq h, ← hpl, List.drop_left, List.take_left]
theorem slice_S {l : List Nat} {i j : Int} (h0 : 0 ≤ i) (h1 : i ≤ j) (h2 : j ≤ l.length) : Txt.slice (S l) (some i) (some j) = S ((l.drop i.toNat).take (j - i).toNat) := by
  have := StrLaws.sliceText_plain (x := S l) (i := i) (j := j) ⟨h0, h1, by simpa [S] using h2⟩
  exact this
theorem slice_toS {l : List Nat} {j : Int} (h0 : 0 ≤ j) : Txt.slice (S l) none (some j) = S (l.take j.toNat) := by
  by_cases h : j ≤ l.length
  · have := StrLaws.sliceText_to (x := S l) (j := j) ⟨h0, by simpa [S] using h⟩
    refine Eq.trans this ?_
    simp [S]
  · have hl : ((S l).length : Int) ≤ j := by rw [S_length]; omega
    rw [slice_to_beyond hl]
    have := StrLaws.sliceText_to (x := S l) (j := ((S l).length : Int)) ⟨by omega, by simp [S, PySem.Str.length]⟩
    have e : Txt.slice (S l) none (some ((S l).length : Int)) = S l := by
      refine Eq.trans this ?_
      simp [S, PySem.Str.length]
    rw [e, List.take_of_length_le (by omega)]
theorem slice_fromS {l : List Nat} {i : Int} (h0 : 0 ≤ i) : Txt.slice (S l) (some i) none = S (l.drop i.toNat) := by
  by_cases h : i ≤ l.length
  · have := StrLaws.sliceText_from (x := S l) (i := i) ⟨h0, by simpa [S] using h⟩
    refine Eq.trans this ?_
    simp only [S]
    congr 2
    rw [List.take_of_length_le]
    rw [List.length_drop]; omega
  · have hl : ((S l).length : Int) ≤ i := by rw [S_length]; omega
    rw [slice_from_beyond hl, List.drop_eq_nil_of_le (by omega)]
    rfl
theorem inter_ne {ws : List (List Nat)} (hw : ∀ x ∈ ws, Good x) {c : List Nat} (h : c ∈ inter ws) : 0 < c.length := by
  rcases inter_mem h with rfl | h
  · decide
  · exact good_pos (hw _ h)
theorem len_le_flat : ∀ {l : List (List Nat)}, (∀ c ∈ l, 0 < c.length) → l.length ≤ l.flatten.length
  | [], _ => Nat.le_refl _
  | c :: r, h => by
    have ih := len_le_flat (l := r) fun x hx => h x (.tail _ hx)
    have := h c (.head _)
    rw [List.flatten_cons, List.length_append, List.length_cons]; omega
theorem dn_len {ws dn rs : List (List Nat)} (hw : ∀ x ∈ ws, Good x) (h : dn ++ rs = inter ws) : dn.length ≤ (joinW ws).length := by
  have h1 := len_le_flat (l := dn) fun c hc => inter_ne hw (h ▸ List.mem_append_left _ hc)
  have h2 : (joinW ws).length = dn.flatten.length + rs.flatten.length := by rw [← inter_flatten, ← h]; simp
  omega
theorem strs_len {vs : List Value} {ls : List (List Nat)} (h : StrsAre vs (ls.map S)) : vs.length = ls.length := by
  rw [h.length, List.length_map]
theorem strs_snoc {vs : List Value} {ls : List (List Nat)} {x : PySem.Str} {t : Tok} {c : List Nat} (h : StrsAre vs (ls.map S)) (e : x = S c) : StrsAre (vs ++ [.str x t]) ((ls ++ [c]).map S) := by
  subst e
  rw [List.map_append]
  exact h.append' (.cons _ _ .nil)
theorem flat_snoc (dn : List (List Nat)) (c : List Nat) : (dn ++ [c]).flatten.length = dn.flatten.length + c.length := by
  rw [List.flatten_append, List.length_append]; simp
theorem snoc_eq {dn rs x : List (List Nat)} {c : List Nat} (h : dn ++ c :: rs = x) : (dn ++ [c]) ++ rs = x := by rw [← h]; simp
theorem joinW_mem : ∀ {ws : List (List Nat)}, (∀ x ∈ ws, Good x) → ∀ {c : Nat}, c ∈ joinW ws → c = 32 ∨ (97 ≤ c ∧ c ≤ 122)
  | [], _, c, h => nomatch h
  | [w], hw, c, h => .inr ((hw w (.head _)).2 c h)
  | w :: x :: r, hw, c, h => by
    have e : joinW (w :: x :: r) = w ++ 32 :: joinW (x :: r) := rfl
    rw [e] at h
    rcases List.mem_append.mp h with h | h
    · exact .inr ((hw w (.head _)).2 c h)
    rcases List.mem_cons.mp h with h | h
    · exact .inl h
    · exact joinW_mem (fun y hy => hw y (.tail _ hy)) h
theorem codes_S (l : List Nat) : KStt.codes (S l) = l.map fun (c : Nat) => (c : Int) := by simp [KStt.codes, S]
theorem code_mem {l : List Nat} {pre post : List Int} {n : Nat} (h : KStt.codes (S l) = pre ++ (n : Int) :: post) : n ∈ l := by
  have : (n : Int) ∈ KStt.codes (S l) := by rw [h]; simp
  rw [codes_S] at this
  obtain ⟨c, hc, e⟩ := List.mem_map.mp this
  have : c = n := by omega
  exact this ▸ hc
theorem code_len {l : List Nat} {pre post : List Int} {n : Nat} (h : KStt.codes (S l) = pre ++ (n : Int) :: post) : pre.length < l.length := by
  have := congrArg List.length h
  rw [codes_S, List.length_map, List.length_append, List.length_cons] at this
  omega
def sgnOk (n : Nat) : Bool := (n == 32) || (decide (97 ≤ n) && decide (n ≤ 122))
theorem sgn_tab : ∀ n : Fin 128, sgnOk n.val = true → ((⟨#[n.val]⟩ : PySem.Str) == PySem.Str.ofString "\t") = false := by decide +kernel
theorem sgn_in4 : ∀ n : Fin 128, sgnOk n.val = true → (!(Builtin.Str.occurrences (PySem.Str.ofString "\n\x0b\x0c\r") (⟨#[n.val]⟩ : PySem.Str) 0 (PySem.Str.ofString "\n\x0b\x0c\r").length 1).isEmpty) = false := by decide +kernel
theorem sgn_in2 : ∀ n : Fin 128, sgnOk n.val = true → (!(Builtin.Str.occurrences (PySem.Str.ofString "\n\r") (⟨#[n.val]⟩ : PySem.Str) 0 (PySem.Str.ofString "\n\r").length 1).isEmpty) = false := by decide +kernel
theorem sgn_all {ws : List (List Nat)} (hw : ∀ x ∈ ws, Good x) {pre post : List Int} {n : Nat} (h : KStt.codes (S (joinW ws)) = pre ++ (n : Int) :: post) :
    ((⟨#[n]⟩ : PySem.Str) == PySem.Str.ofString "\t") = false ∧ (!(Builtin.Str.occurrences (PySem.Str.ofString "\n\x0b\x0c\r") (⟨#[n]⟩ : PySem.Str) 0 (PySem.Str.ofString "\n\x0b\x0c\r").length 1).isEmpty) = false ∧
    (!(Builtin.Str.occurrences (PySem.Str.ofString "\n\r") (⟨#[n]⟩ : PySem.Str) 0 (PySem.Str.ofString "\n\r").length 1).isEmpty) = false := by
  have hc := joinW_mem hw (code_mem h)
  have hl : n < 128 := by omega
  have ok : sgnOk n = true := by
    unfold sgnOk
    rcases hc with hc | hc
    · simp [hc]
    · simp [hc.1, hc.2]
  exact ⟨sgn_tab ⟨n, hl⟩ ok, sgn_in4 ⟨n, hl⟩ ok, sgn_in2 ⟨n, hl⟩ ok⟩
-- D2
section
local macro_rules | `(tactic| walk_at "call ref") => `(tactic| ((with_reducible show wpAny _ _ (call (Value.ref 35) _) _ _ _); k_dflt (refine' dashes_use ?k1 ?k2 ?k3 ?k4 ?k5 rfl rfl rfl ?k6 ?k7 rfl rfl ?g1 ?g2 ?g3 ?g4 ?_; (case k1 => k_asm); (case k2 => k_asm); (case k3 => k_asm); (case k4 => k_asm); (case k5 => k_asm); (case k6 => exact Nat.le_of_ble_eq_true rfl); (case k7 => exact Nat.le_of_ble_eq_true rfl); (case g1 => omega); (case g2 => omega); (case g3 => omega); (case g4 => assumption); intro h' tk' F' N'; (try k_sweep))))
theorem split_use {w : World} {A A₀ : Around} {base h₀ : Heap} {env : Env} {outer : List Env} {L : Addr} {m mg mb : Str → Option Value} {mean : ExcName → Option Value} {news : List (Addr × Obj)} {s : Shared} {E Q : Value → Shared → Prop}
    {ws : List (List Nat)} {t1 : Tok}
    (B : Below A₀ base outer h₀) (F : Fr h₀ L s.heap m) (X : (hd.heap_39 w.params).In h₀) (N : News h₀ L s.heap news) (Tt : Tp mean mg mb h₀)
    (a1 : A.handled = none) (a2 : A.frames = some (env :: outer)) (a3 : A.guards = some []) (a4 : A.depth ≤ 390) (a5 : A.units ≤ 900) (hf : env.frame = some L) (hke : env.scope.kind = .function)
    (hw : ∀ x ∈ ws, Good x) (hn : ws ≠ []) (hsz : (joinW ws).length ≤ 50000)
    (ret : ∀ r vs n h' tk', StrsAre vs ((inter ws).map S) → s.heap.get? r = none → Fr h₀ L h' m → News h₀ L h' ((r, listOf vs.toArray n) :: news) → Q (.ref r) { s with heap := h', toks := tk' }) :
    wpAny (model PR w) A (call (.ref 49) [.str (S (joinW ws)) t1]) Q E s := by
  refine weaken (d := 390) (u := 900) a1 a2 a3 a4 a5 ?_
  have hL := S_length (joinW ws)
  walk_at "prime"
  let Out : Value → List (Addr × Obj) → Prop := fun v nx => ∃ r vs n, v = .ref r ∧ (r, listOf vs.toArray n) ∈ nx ∧ StrsAre vs ((inter ws).map S)
  walk_at "f_enter"
  case ret =>
    intro v h' tk' news' F' N' hn hst ho
    obtain ⟨r, vs, n, rfl, hm, hs⟩ := ho
    exact ret r vs n _ _ hs (hn _ hm) F' fun p hp => N' p (by
      rcases List.mem_cons.mp hp with rfl | hp
      · exact List.mem_append_left _ hm
      · exact List.mem_append_right _ hp)
  intro h₁ F' N' B' X' T'
  clear B F X N Tt a1 a2 a3 a4 a5 hf hke ret
  (try dsimp only)
  walk_at "mine go"
  refine halt_out ?_
  have eT : (PySem.Str.ofString "   " ++ S (joinW ws) ++ PySem.Str.ofString "   ") = S (pad ws) := by
    unfold pad
    rw [str_3blank, S_append, S_append]
  (rename Fr _ _ _ _ => F)
  (rename News _ _ _ _ => N)
  rw [eT] at F
  generalize hT : S (pad ws) = T at F
  obtain ⟨l, hl⟩ := name1 N
  subst hl
  refine ksw_while (σ := List Value × Nat × Int × Tok × List (List Nat) × List (List Nat)) (fun c => [(l, listOf c.1.toArray c.2.1)]) (fun c => [(PySem.Str.ofString "at", .int c.2.2.1 c.2.2.2.1)])
    (fun c => StrsAre c.1 (c.2.2.2.2.1.map S)) [PySem.Str.ofString "start"] (fun c => c.2.2.2.2.1 ++ c.2.2.2.2.2 = inter ws ∧ c.2.2.1 = 3 + (c.2.2.2.2.1.flatten.length : Int)) (fun c => c.2.2.2.2.2.length) ([], 0, 3, _, [], inter ws) F N (by exact .nil) (by kst_all) (by exact ⟨rfl, rfl⟩) ?_
  intro ⟨vs, n, a, ta, dn, rs⟩ u h tk hs hP F N
  dsimp only at hs hP F N ⊢
  obtain ⟨hP, ha⟩ := hP
  have hTl : T.length = (joinW ws).length + 6 := by rw [← hT, S_length, pad_length]
  rcases rs with _ | ⟨c, rs⟩
  · have hd : dn.flatten.length = (joinW ws).length := by rw [← inter_flatten, ← hP, List.append_nil]
    walk_at "mine go"
    walk_at "mine back"
    rw [List.append_nil] at hP
    exact ⟨l, vs, n, rfl, .head _, hP ▸ hs⟩
  · have htf := turn_of hw hP ha
    rw [hT] at htf
    have hle : a < 3 + (joinW ws).length := by
      rcases htf with ⟨_, h⟩ | h
      · have := h.le; omega
      · have := h.le; have := h.pos; omega
    rcases htf with ⟨rfl, hh, hx, hxd, hxl⟩ | ⟨hh, hx, hxl, hpos⟩
    · have e1 := item_blank (by omega) (by omega) hh
      have e2 := item_noblank (by omega) (by omega) hx
      have eS : Txt.slice T (some a) (some (a + 1)) = S [32] := by
        rw [← hT, slice_S (by omega) (by omega) (by rw [pad_length]; omega)]
        have := slice_of hP
        rw [show a.toNat = 3 + dn.flatten.length from by omega, show (a + 1 - a).toNat = ([32] : List Nat).length from by show (a + 1 - a).toNat = 1; omega, this]
      have hvl : vs.length ≤ 50000 := by rw [strs_len hs]; have := dn_len hw hP; omega
      walk_at "mine go"
      refine halt_out ?_
      refine while_skip ?_
      walk_at "mine go"
      (rename News _ _ _ _ => nE)
      (try simp only [List.push_toArray] at nE)
      refine haltP_out (ksw_end ⟨vs ++ [.str (Txt.slice T (some a) (some (a + 1))) _], _, _, _, dn ++ [[32]], rs⟩ (by assumption) nE (fun _ hp => hp) ?_ (by kst_all) (by walk_at "mine same") ?_ ?_)
      · exact strs_snoc hs eS
      · refine ⟨snoc_eq hP, ?_⟩
        rw [flat_snoc]; show a + 1 = 3 + ((dn.flatten.length + 1 : Nat) : Int); omega
      · exact Nat.lt_succ_self _
    · have e1 := item_noblank (by omega) (by omega) (hh a (by omega) (by omega)).1
      have e2 := (hh a (by omega) (by omega)).2
      have eS : Txt.slice T (some a) (some (a + c.length)) = S c := by
        rw [← hT, slice_S (by omega) (by omega) (by rw [pad_length]; omega)]
        have := slice_of hP
        rw [show a.toNat = 3 + dn.flatten.length from by omega, show (a + c.length - a).toNat = c.length from by omega, this]
      have hvl : vs.length ≤ 50000 := by rw [strs_len hs]; have := dn_len hw hP; omega
      walk_at "mine go"
      refine halt_out ?_
      (rename Fr _ _ _ _ => F)
      (rename News _ _ _ _ => N)
      refine ksw_while (σ := Int × Tok) (fun _ => [(l, listOf vs.toArray n)]) (fun c => [(PySem.Str.ofString "at", .int c.1 c.2)]) (fun _ => True) [] (fun x => a < x.1 ∧ x.1 ≤ a + c.length) (fun x => (a + c.length - x.1).toNat) (a + 1, _) F N trivial (by kst_all) (by exact ⟨by omega, by omega⟩) ?_
      intro ⟨b, tb⟩ u h tk _ hb F N
      dsimp only at hb F N ⊢
      obtain ⟨hb1, hb2⟩ := hb
      by_cases hq : b < a + c.length
      · have e3 := bne_t (item_noblank (by omega) (by omega) (hh b (by omega) (by omega)).1)
        have e4 := item_nodash (by omega) (by omega) (hh b (by omega) (by omega)).2
        walk_at "mine go"
        (rename News _ _ _ _ => nE)
        refine haltP_out (ksw_end ⟨b + 1, _⟩ (by assumption) nE (fun _ hp => hp) trivial (by kst_all) (by walk_at "mine same") ?_ ?_)
        · exact ⟨by show a < b + 1; omega, by show b + 1 ≤ a + c.length; omega⟩
        · show (a + c.length - (b + 1)).toNat < (a + c.length - b).toNat
          omega
      · have hbe : b = a + c.length := by omega
        subst hbe
        have e3 := bne_f (item_blank (by omega) (by omega) hx)
        have e4 := item_nodash (T := T) (i := a + c.length) (by omega) (by omega) (by omega)
        walk_at "mine go"
        (rename News _ _ _ _ => nE)
        (try simp only [List.push_toArray] at nE)
        refine haltP_out (ksw_end ⟨vs ++ [.str (Txt.slice T (some a) (some (a + c.length))) _], _, _, _, dn ++ [c], rs⟩ (by assumption) nE (fun _ hp => hp) ?_ (by kst_all) (by walk_at "mine same") ?_ ?_)
        · exact strs_snoc hs eS
        · refine ⟨snoc_eq hP, ?_⟩
          rw [flat_snoc]; show a + c.length = 3 + ((dn.flatten.length + c.length : Nat) : Int); omega
        · exact Nat.lt_succ_self _
end
-- Plain1
theorem sp_letter : ∀ n : Fin 128, 97 ≤ n.val → n.val ≤ 122 → Unicode.isSpace n.val = false := by decide +kernel
theorem sp_let {c : Nat} (h : 97 ≤ c ∧ c ≤ 122) : Unicode.isSpace c = false := sp_letter ⟨c, by omega⟩ h.1 h.2
theorem strip_word {c : List Nat} (h : Good c) : Txt.strip (S c) = S c := by
  have hp := good_pos h
  unfold Txt.strip
  rw [PyProof.Rows.stripBy_eq]
  have hlo := lo_facts Unicode.isSpace (S c)
  have h0 : PySem.stripLo Unicode.isSpace true (S c) = 0 := by
    apply Nat.eq_zero_of_not_pos
    intro hpos
    have := hlo.2.1 0 hpos
    rw [S_getD, sp_let (good_at h hp)] at this
    cases this
  rw [h0]
  have hhi := hi_facts Unicode.isSpace (S c) 0 (Nat.zero_le _)
  have h1 : PySem.stripHi Unicode.isSpace true (S c) 0 = (S c).length := by
    refine Nat.le_antisymm hhi.2.1 (Nat.le_of_not_lt fun hlt => ?_)
    rw [S_length] at hlt
    have := hhi.2.2.1 (c.length - 1) (by omega) (by rw [S_length]; omega)
    rw [S_getD, sp_let (good_at h (by omega))] at this
    cases this
  rw [h1]
  exact strSub_whole _
theorem strip_ne {c : List Nat} (h : Good c) : (Txt.strip (S c) == PySem.Str.ofString "") = false := by
  rw [strip_word h, str_noneS, beq_eq_false_iff_ne]
  exact fun e => h.1 (S_inj e)
theorem strip_blank : (Txt.strip (S [32]) == PySem.Str.ofString "") = true := by decide +kernel
theorem good_take {c : List Nat} (h : Good c) {k : Nat} (hk : 0 < k) : Good (c.take k) := by
  refine ⟨fun e => ?_, fun x hx => h.2 x (List.mem_of_mem_take hx)⟩
  have := congrArg List.length e
  rw [List.length_take, List.length_nil] at this
  have := good_pos h
  omega
theorem good_drop {c : List Nat} (h : Good c) {k : Nat} (hk : k < c.length) : Good (c.drop k) := by
  refine ⟨fun e => ?_, fun x hx => h.2 x (List.mem_of_mem_drop hx)⟩
  have := congrArg List.length e
  rw [List.length_drop, List.length_nil] at this
  omega
theorem rfind_dash {c : List Nat} (h : ∀ x ∈ c, 97 ≤ x ∧ x ≤ 122) : Txt.rfind (S c) (PySem.Str.ofString "-") = -1 := by
  unfold Txt.rfind
  rcases StrLaws.last_spec (S c) (PySem.Str.ofString "-") with ⟨e, _⟩ | ⟨i, e, hA, _⟩
  · rw [e]
  · exfalso
    rw [str_dash] at hA
    have := (StrLaws.subAt_one (S c) 45 i).mp hA
    have hm : 45 ∈ (S c).cps.toList := List.mem_of_getElem? this
    have := h 45 (by simpa [S] using hm)
    omega
theorem sjoin_nil : ∀ ls : List (List Nat), PySem.Str.join (S []) (ls.map S) = S ls.flatten
  | [] => rfl
  | [x] => by simp [PySem.Str.join]
  | x :: y :: r => by
    have ih := sjoin_nil (y :: r)
    show S x ++ S [] ++ PySem.Str.join (S []) ((y :: r).map S) = _
    rw [ih, S_append, S_append, List.append_nil]; rfl
theorem sjoin_blank : ∀ ls : List (List Nat), PySem.Str.join (S [32]) (ls.map S) = S (joinW ls)
  | [] => rfl
  | [x] => rfl
  | x :: y :: r => by
    have ih := sjoin_blank (y :: r)
    show S x ++ S [32] ++ PySem.Str.join (S [32]) ((y :: r).map S) = _
    rw [ih, S_append, S_append]
    show S (x ++ [32] ++ joinW (y :: r)) = S (x ++ 32 :: joinW (y :: r))
    simp
theorem join_flat (ls : List (List Nat)) : Txt.join (PySem.Str.ofString "") (ls.map S) = S ls.flatten := by
  show Builtin.Str.glued _ _ = _
  rw [StrLaws.glued_eq_join, str_noneS, sjoin_nil]
theorem join_blank (ls : List (List Nat)) : Txt.join (PySem.Str.ofString " ") (ls.map S) = S (joinW ls) := by
  show Builtin.Str.glued _ _ = _
  rw [StrLaws.glued_eq_join, str_blankS, sjoin_blank]

/- the lines, on words -/
def go (w : Nat) : Nat → List (List Nat) → List Nat × List (List Nat)
  | _, [] => ([], [])
  | n, x :: r => if n + 1 + x.length ≤ w then (32 :: x ++ (go w (n + 1 + x.length) r).1, (go w (n + 1 + x.length) r).2)
    else if w < x.length ∧ n + 1 < w then (32 :: x.take (w - (n + 1)), x.drop (w - (n + 1)) :: r)
    else ([], x :: r)
def lineF (w : Nat) : List (List Nat) → List Nat × List (List Nat)
  | [] => ([], [])
  | x :: r => if x.length ≤ w then (x ++ (go w x.length r).1, (go w x.length r).2) else (x.take w, x.drop w :: r)
inductive Wraps (w : Nat) : List (List Nat) → List (List Nat) → Prop
  | nil : Wraps w [] []
  | cons {x : List Nat} {r ls : List (List Nat)} : Wraps w (lineF w (x :: r)).2 ls → Wraps w (x :: r) ((lineF w (x :: r)).1 :: ls)
def tailC : List (List Nat) → List (List Nat)
  | [] => []
  | x :: r => [32] :: inter (x :: r)
theorem inter_tail (x : List Nat) : ∀ r : List (List Nat), inter (x :: r) = x :: tailC r
  | [] => rfl
  | _ :: _ => rfl
/-- what stands when the line is cut off: t taken, cs left, n signs ahead of t -/
structure Step (w n : Nat) (t cs : List (List Nat)) (out : List Nat × List (List Nat)) : Prop where
  cut : ∀ c cs', cs = c :: cs' → w < c.length → n + t.flatten.length < w → Good c ∧ (t ++ [c.take (w - (n + t.flatten.length))]).flatten = out.1 ∧ inter out.2 = c.drop (w - (n + t.flatten.length)) :: cs'
  blank : (∀ c cs', cs = c :: cs' → w < c.length → ¬ n + t.flatten.length < w) → ∀ t', t = t' ++ [[32]] → t'.flatten = out.1 ∧ inter out.2 = cs ∧ cs ≠ []
  word : (∀ c cs', cs = c :: cs' → w < c.length → ¬ n + t.flatten.length < w) → (∀ t', t ≠ t' ++ [[32]]) → t.flatten = out.1 ∧ cs = tailC out.2
  last : t = [] ∨ (∃ t', t = t' ++ [[32]]) ∨ ∃ t' c, t = t' ++ [c] ∧ Good c
theorem step_go (w : Nat) (hw : 1 ≤ w) : ∀ (r : List (List Nat)) (n : Nat) (t cs : List (List Nat)), (∀ x ∈ r, Good x) → t ++ cs = tailC r → n + t.flatten.length ≤ w →
    (∀ c cs', cs = c :: cs' → w < n + t.flatten.length + c.length) → Step w n t cs (go w n r)
  | [], n, t, cs, _, h, _, _ => by
    have h1 : t = [] := (List.append_eq_nil_iff.mp h).1
    have h2 : cs = [] := (List.append_eq_nil_iff.mp h).2
    subst h1 h2
    exact ⟨fun _ _ e => (nomatch e), fun _ t' e => absurd e (by simp), fun _ _ => ⟨rfl, rfl⟩, .inl rfl⟩
  | x :: r, n, t, cs, hg, h, hle, hmax => by
    have gx := hg x (.head _)
    have px := good_pos gx
    have e0 : tailC (x :: r) = [32] :: x :: tailC r := by show [32] :: inter (x :: r) = _; rw [inter_tail]
    rw [e0] at h
    cases t with
    | nil =>
      rw [List.nil_append] at h
      subst h
      have hm := hmax _ _ rfl
      simp only [List.flatten_nil, List.length_nil, List.length_cons, Nat.add_zero] at hm hle
      have e1 : go w n (x :: r) = ([], x :: r) := by
        unfold go
        rw [if_neg (by omega), if_neg (by omega)]
      rw [e1]
      exact ⟨fun c cs' e hc hn => by injection e with e _; subst e; simp at hc; omega, fun _ t' e => absurd e (by simp), fun _ _ => ⟨rfl, e0.symm⟩, .inl rfl⟩
    | cons b t =>
      injection h with hb h
      subst hb
      cases t with
      | nil =>
        have h : cs = x :: tailC r := h
        subst h
        have hm := hmax _ _ rfl
        simp only [List.flatten_cons, List.flatten_nil, List.append_nil, List.length_cons, List.length_nil, Nat.zero_add] at hm hle
        have e1 : go w n (x :: r) = if w < x.length ∧ n + 1 < w then (32 :: x.take (w - (n + 1)), x.drop (w - (n + 1)) :: r) else ([], x :: r) := by
          rw [go, if_neg (by omega)]
        refine ⟨fun c cs' e hc hn => ?_, fun hno t' e => ?_, fun _ hno => absurd rfl (hno []), .inr (.inl ⟨[], rfl⟩)⟩
        · injection e with e1' e2'
          subst e1' e2'
          simp only [List.flatten_cons, List.flatten_nil, List.append_nil, List.length_cons, List.length_nil, Nat.zero_add] at hn
          rw [e1, if_pos ⟨hc, hn⟩]
          refine ⟨gx, by simp, ?_⟩
          rw [inter_tail]; simp
        · have et : t' = [] := by
            cases t' with
            | nil => rfl
            | cons y t' => injection e with _ e; cases t' <;> cases e
          subst et
          have := hno x _ rfl
          simp only [List.flatten_cons, List.flatten_nil, List.append_nil, List.length_cons, List.length_nil, Nat.zero_add] at this
          rw [e1, if_neg (fun q => this q.1 q.2)]
          exact ⟨rfl, by rw [inter_tail], by simp⟩
      | cons y t =>
        injection h with hy h
        subst hy
        simp only [List.flatten_cons, List.length_append, List.length_cons, List.length_nil, Nat.zero_add] at hle hmax
        have e1 : go w n (y :: r) = (32 :: y ++ (go w (n + 1 + y.length) r).1, (go w (n + 1 + y.length) r).2) := by
          rw [go, if_pos (by omega)]
        have ih := step_go w hw r (n + 1 + y.length) t cs (fun x hx => hg x (.tail _ hx)) h (by omega) (fun c cs' e => by have := hmax c cs' e; omega)
        have ef : n + ([32] :: y :: t).flatten.length = n + 1 + y.length + t.flatten.length := by
          simp only [List.flatten_cons, List.length_append, List.length_cons, List.length_nil]; omega
        rw [e1]
        refine ⟨fun c cs' e hc hn => ?_, fun hno t' e => ?_, fun hno hnb => ?_, ?_⟩
        · rw [ef] at hn ⊢
          obtain ⟨g1, g2, g3⟩ := ih.cut c cs' e hc hn
          refine ⟨g1, ?_, g3⟩
          rw [← g2]; simp
        · rw [ef] at hno
          cases t' with
          | nil => injection e with _ e; cases e
          | cons z t' =>
            injection e with e1' e
            subst e1'
            cases t' with
            | nil => injection e with e e'; rw [e] at gx; exact absurd (gx.2 32 (.head _)) (by omega)
            | cons z t' =>
              injection e with e1' e
              subst e1'
              obtain ⟨g1, g2, g3⟩ := ih.blank hno t' e
              refine ⟨?_, g2, g3⟩
              rw [← g1]; simp
        · rw [ef] at hno
          obtain ⟨g1, g2⟩ := ih.word hno fun t' e => hnb ([32] :: y :: t') (by rw [e]; rfl)
          refine ⟨?_, g2⟩
          rw [← g1]; simp
        · rcases ih.last with e | ⟨t', e⟩ | ⟨t', c, e, gc⟩
          · subst e
            exact .inr (.inr ⟨[[32]], y, rfl, gx⟩)
          · exact .inr (.inl ⟨[32] :: y :: t', by rw [e]; rfl⟩)
          · exact .inr (.inr ⟨[32] :: y :: t', c, by rw [e]; rfl, gc⟩)
theorem step_line (w : Nat) (hw : 1 ≤ w) {r : List (List Nat)} {t cs : List (List Nat)} (hr : r ≠ []) (hg : ∀ x ∈ r, Good x) (h : t ++ cs = inter r) (hle : t.flatten.length ≤ w)
    (hmax : ∀ c cs', cs = c :: cs' → w < t.flatten.length + c.length) : Step w 0 t cs (lineF w r) ∧ (t = [] → ∃ c cs', cs = c :: cs' ∧ w < c.length) := by
  cases r with
  | nil => exact absurd rfl hr
  | cons x r =>
    have gx := hg x (.head _)
    rw [inter_tail] at h
    cases t with
    | nil =>
      rw [List.nil_append] at h
      subst h
      have hm := hmax _ _ rfl
      simp only [List.flatten_nil, List.length_nil, Nat.zero_add] at hm
      have e1 : lineF w (x :: r) = (x.take w, x.drop w :: r) := by
        show (if x.length ≤ w then (x ++ (go w x.length r).1, (go w x.length r).2) else (x.take w, x.drop w :: r)) = _
        rw [if_neg (by omega)]
      rw [e1]
      refine ⟨⟨fun c cs' e hc hn => ?_, fun _ t' e => absurd e (by simp), fun hno _ => absurd (by simp; omega) (hno x _ rfl hm), .inl rfl⟩, fun _ => ⟨x, _, rfl, hm⟩⟩
      injection e with e1' e2'
      subst e1' e2'
      refine ⟨gx, by simp, ?_⟩
      rw [inter_tail]; simp
    | cons y t =>
      injection h with hy h
      subst hy
      simp only [List.flatten_cons, List.length_append] at hle hmax
      have e1 : lineF w (y :: r) = (y ++ (go w y.length r).1, (go w y.length r).2) := by
        show (if y.length ≤ w then (y ++ (go w y.length r).1, (go w y.length r).2) else (y.take w, y.drop w :: r)) = _
        rw [if_pos (by omega)]
      have ih := step_go w hw r y.length t cs (fun x hx => hg x (.tail _ hx)) h (by omega) (fun c cs' e => hmax c cs' e)
      have ef : 0 + (y :: t).flatten.length = y.length + t.flatten.length := by
        simp only [List.flatten_cons, List.length_append]; omega
      rw [e1]
      refine ⟨⟨fun c cs' e hc hn => ?_, fun hno t' e => ?_, fun hno hnb => ?_, ?_⟩, fun e => (nomatch e)⟩
      · rw [ef] at hn ⊢
        obtain ⟨g1, g2, g3⟩ := ih.cut c cs' e hc hn
        refine ⟨g1, ?_, g3⟩
        rw [← g2]; simp
      · rw [ef] at hno
        cases t' with
        | nil => injection e with e e'; rw [e] at gx; exact absurd (gx.2 32 (.head _)) (by omega)
        | cons z t' =>
          injection e with e1' e
          subst e1'
          obtain ⟨g1, g2, g3⟩ := ih.blank hno t' e
          refine ⟨?_, g2, g3⟩
          rw [← g1]; simp
      · rw [ef] at hno
        obtain ⟨g1, g2⟩ := ih.word hno fun t' e => hnb (y :: t') (by rw [e]; rfl)
        refine ⟨?_, g2⟩
        rw [← g1]; simp
      · rcases ih.last with e | ⟨t', e⟩ | ⟨t', c, e, gc⟩
        · subst e
          exact .inr (.inr ⟨[], y, rfl, gx⟩)
        · exact .inr (.inl ⟨y :: t', by rw [e]; rfl⟩)
        · exact .inr (.inr ⟨y :: t', c, by rw [e]; rfl, gc⟩)
theorem strs_rev {vs : List Value} {ls : List PySem.Str} (h : StrsAre vs ls) : StrsAre vs.reverse ls.reverse := by
  induction h with
  | nil => exact .nil
  | cons y t _ ih =>
    rw [List.reverse_cons, List.reverse_cons]
    exact ih.append' (.cons _ _ .nil)
theorem strs_revS {vs : List Value} {ls : List (List Nat)} (h : StrsAre vs (ls.map S)) : StrsAre vs.reverse (ls.reverse.map S) := by
  rw [List.map_reverse]; exact strs_rev h
theorem strs_nilI {vs : List Value} (h : StrsAre vs (([] : List (List Nat)).map S)) : vs = [] := by cases h; rfl
theorem strs_top {vs : List Value} {ls : List PySem.Str} {x : PySem.Str} (h : StrsAre vs (ls ++ [x])) : ∃ us t, vs = us ++ [.str x t] ∧ StrsAre us ls := by
  have h2 := strs_rev h
  rw [List.reverse_append] at h2
  generalize he : vs.reverse = rv at h2
  cases h2 with
  | cons y t h3 =>
    rename_i us
    refine ⟨us.reverse, t, ?_, ?_⟩
    · rw [← List.reverse_reverse vs, he, List.reverse_cons]
    · have h4 : StrsAre us ls.reverse := h3
      have := strs_rev h4
      rwa [List.reverse_reverse] at this
theorem strs_topS {vs : List Value} {cs : List (List Nat)} {c : List Nat} (h : StrsAre vs ((c :: cs).reverse.map S)) : ∃ us t, vs = us ++ [.str (S c) t] ∧ StrsAre us (cs.reverse.map S) := by
  rw [List.reverse_cons, List.map_append] at h
  exact strs_top h
theorem strs_lastS {vs : List Value} {ls : List (List Nat)} {c : List Nat} (h : StrsAre vs ((ls ++ [c]).map S)) : ∃ us t, vs = us ++ [.str (S c) t] ∧ StrsAre us (ls.map S) := by
  rw [List.map_append] at h
  exact strs_top h
structure OutI (w : Nat) (ws lns cs : List (List Nat)) (rem : List (List Nat)) : Prop where
  good : ∀ x ∈ rem, Good x
  form : cs = inter rem ∨ (cs = [32] :: inter rem ∧ lns ≠ [] ∧ rem ≠ [])
  wr : ∀ ls, Wraps w rem ls → Wraps w ws (lns ++ ls)
  len : lns.length + cs.flatten.length ≤ (joinW ws).length
theorem inter_nilI {rem : List (List Nat)} (h : inter rem = []) : rem = [] := by
  cases rem with
  | nil => rfl
  | cons x r => rw [inter_tail] at h; cases h
theorem OutI.lens {w : Nat} {ws lns cs rem : List (List Nat)} (h : OutI w ws lns cs rem) : lns.length ≤ (joinW ws).length ∧ cs.length ≤ (joinW ws).length ∧ cs.flatten.length ≤ (joinW ws).length := by
  have hl := h.len
  have : cs.length ≤ cs.flatten.length := len_le_flat fun c hc => by
    rcases h.form with e | ⟨e, _, _⟩
    · exact inter_ne h.good (e ▸ hc)
    · rw [e] at hc
      rcases List.mem_cons.mp hc with rfl | hc
      · decide
      · exact inter_ne h.good hc
  omega
theorem OutI.first {w : Nat} {ws lns cs rem : List (List Nat)} {c : List Nat} (h : OutI w ws lns (c :: cs) rem) :
    (Good c ∧ rem ≠ [] ∧ c :: cs = inter rem) ∨ (c = [32] ∧ lns ≠ [] ∧ rem ≠ [] ∧ cs = inter rem) := by
  rcases h.form with e | ⟨e, h1, h2⟩
  · cases rem with
    | nil => cases e
    | cons x r =>
      have e2 := e
      rw [inter_tail] at e
      injection e with e1 _
      exact .inl ⟨e1 ▸ h.good x (.head _), (by simp), e2⟩
  · injection e with e1 e2
    exact .inr ⟨e1, h1, h2, e2⟩
theorem mem_flat_len {c : List Nat} {cs : List (List Nat)} : c.length ≤ (c :: cs).flatten.length := by
  rw [List.flatten_cons, List.length_append]; omega
theorem go_good (w : Nat) : ∀ (r : List (List Nat)) (n : Nat), (∀ x ∈ r, Good x) → ∀ x ∈ (go w n r).2, Good x
  | [], _, _, x, h => nomatch h
  | y :: r, n, hg, x, h => by
    unfold go at h
    split at h
    · exact go_good w r _ (fun z hz => hg z (.tail _ hz)) x h
    · split at h
      · rename_i hc
        rcases List.mem_cons.mp h with rfl | h
        · exact good_drop (hg y (.head _)) (by omega)
        · exact hg x (.tail _ h)
      · exact hg x h
theorem lineF_good {w : Nat} {r : List (List Nat)} (hg : ∀ x ∈ r, Good x) : ∀ x ∈ (lineF w r).2, Good x := by
  cases r with
  | nil => intro x h; cases h
  | cons y r =>
    intro x h
    by_cases hy : y.length ≤ w
    · have e : (lineF w (y :: r)).2 = (go w y.length r).2 := by show (if y.length ≤ w then _ else _ : List Nat × List (List Nat)).2 = _; rw [if_pos hy]
      rw [e] at h
      exact go_good w r _ (fun z hz => hg z (.tail _ hz)) x h
    · have e : (lineF w (y :: r)).2 = y.drop w :: r := by show (if y.length ≤ w then _ else _ : List Nat × List (List Nat)).2 = _; rw [if_neg hy]
      rw [e] at h
      rcases List.mem_cons.mp h with rfl | h
      · exact good_drop (hg y (.head _)) (by omega)
      · exact hg x (.tail _ h)
theorem tail_form (r : List (List Nat)) : tailC r = inter r ∨ (tailC r = [32] :: inter r ∧ r ≠ []) := by
  cases r with
  | nil => exact .inl rfl
  | cons x r => exact .inr ⟨rfl, by simp⟩
theorem OutI.next {w : Nat} {ws lns rem cs : List (List Nat)} {line : List Nat} (hg : ∀ x ∈ rem, Good x) (hwr : ∀ ls, Wraps w rem ls → Wraps w ws (lns ++ ls)) (hrem : rem ≠ [])
    (hlen : lns.length + (inter rem).flatten.length ≤ (joinW ws).length) (e : line = (lineF w rem).1) (hf : cs = inter (lineF w rem).2 ∨ (cs = [32] :: inter (lineF w rem).2 ∧ (lineF w rem).2 ≠ []))
    (hlt : cs.flatten.length < (inter rem).flatten.length) : OutI w ws (lns ++ [line]) cs (lineF w rem).2 := by
  refine ⟨lineF_good hg, ?_, fun ls h => ?_, ?_⟩
  · rcases hf with h | ⟨h1, h2⟩
    · exact .inl h
    · exact .inr ⟨h1, by simp, h2⟩
  · cases rem with
    | nil => exact absurd rfl hrem
    | cons x r =>
      have := hwr _ (Wraps.cons h)
      rw [← e] at this
      simpa using this
  · rw [List.length_append, List.length_cons, List.length_nil]; omega
theorem sum_S (ls : List (List Nat)) : ((ls.map S).map (·.length)).sum = ls.flatten.length := by
  induction ls with
  | nil => rfl
  | cons x r ih =>
    simp only [List.map_cons, List.sum_cons, List.flatten_cons, List.length_append, S_length] at ih ⊢
    rw [ih]
theorem snoc_flat {t : List (List Nat)} {c : List Nat} (hc : 0 < c.length) : 0 < (t ++ [c]).flatten.length := by
  rw [flat_snoc]; omega
theorem app_flat {t cs x : List (List Nat)} (h : t ++ cs = x) : t.flatten.length + cs.flatten.length = x.flatten.length := by
  rw [← h, List.flatten_append, List.length_append]
theorem parts_len {rem t cs : List (List Nat)} (hg : ∀ x ∈ rem, Good x) (h : t ++ cs = inter rem) : t.length ≤ t.flatten.length ∧ cs.length ≤ cs.flatten.length :=
  ⟨len_le_flat fun c hc => inter_ne hg (h ▸ List.mem_append_left _ hc), len_le_flat fun c hc => inter_ne hg (h ▸ List.mem_append_right _ hc)⟩
theorem not_blank1 {rem t' cs : List (List Nat)} (hg : ∀ x ∈ rem, Good x) (h : (t' ++ [[32]]) ++ cs = inter rem) : 0 < t'.length := by
  cases t' with
  | cons _ _ => exact Nat.succ_pos _
  | nil =>
    exfalso
    cases rem with
    | nil => cases h
    | cons x r =>
      rw [inter_tail] at h
      injection h with h _
      have := (hg x (.head _)).2 32 (by rw [← h]; exact .head _)
      omega
/-- behind the cut: t the line's chunks, cs what is left, a last blank still there -/
structure PostC (w : Nat) (rem t cs : List (List Nat)) : Prop where
  last : (∃ t', t = t' ++ [[32]] ∧ 0 < t'.length ∧ t'.flatten = (lineF w rem).1) ∨ (∃ t' g, t = t' ++ [g] ∧ Good g ∧ t.flatten = (lineF w rem).1)
  form : cs = inter (lineF w rem).2 ∨ (cs = [32] :: inter (lineF w rem).2 ∧ (lineF w rem).2 ≠ [])
  lt : cs.flatten.length < (inter rem).flatten.length
  tl : t.flatten.length + cs.flatten.length = (inter rem).flatten.length
  ts : t.length ≤ t.flatten.length
theorem post_plain {w : Nat} (hw : 1 ≤ w) {rem t cs : List (List Nat)} (hr : rem ≠ []) (hg : ∀ x ∈ rem, Good x) (h : t ++ cs = inter rem) (hle : t.flatten.length ≤ w)
    (hmax : ∀ c cs', cs = c :: cs' → w < t.flatten.length + c.length) (hno : ∀ c cs', cs = c :: cs' → w < c.length → ¬ t.flatten.length < w) : PostC w rem t cs := by
  obtain ⟨st, hst⟩ := step_line w hw hr hg h hle hmax
  have hno' : ∀ c cs', cs = c :: cs' → w < c.length → ¬ 0 + t.flatten.length < w := fun c cs' e hc => by have := hno c cs' e hc; omega
  have hfl := app_flat h
  have hpl := parts_len hg h
  rcases st.last with e | ⟨t', e⟩ | ⟨t', g, e, gg⟩
  · obtain ⟨c, cs', e1, e2⟩ := hst e
    have := hno c cs' e1 e2
    rw [e] at this
    simp at this
    omega
  · obtain ⟨h1, h2, _⟩ := st.blank hno' t' e
    refine ⟨.inl ⟨t', e, ?_, h1⟩, .inl h2.symm, ?_, hfl, hpl.1⟩
    · exact not_blank1 hg (e ▸ h)
    · have : 0 < t.flatten.length := by rw [e]; exact snoc_flat (by decide)
      omega
  · obtain ⟨h1, h2⟩ := st.word hno' (fun t'' e' => by
      rw [e] at e'
      have := (List.append_inj' e' rfl).2
      injection this with this
      rw [this] at gg
      have := gg.2 32 (.head _)
      omega)
    refine ⟨.inr ⟨t', g, e, gg, h1⟩, h2 ▸ tail_form _, ?_, hfl, hpl.1⟩
    have : 0 < t.flatten.length := by rw [e]; exact snoc_flat (good_pos gg)
    omega
theorem post_cut {w : Nat} (hw : 1 ≤ w) {rem t cs' : List (List Nat)} {c : List Nat} (hr : rem ≠ []) (hg : ∀ x ∈ rem, Good x) (h : t ++ c :: cs' = inter rem) (hle : t.flatten.length ≤ w)
    (hc : w < c.length) (hlt : t.flatten.length < w) : Good c ∧ PostC w rem (t ++ [c.take (w - t.flatten.length)]) (c.drop (w - t.flatten.length) :: cs') := by
  obtain ⟨st, hst⟩ := step_line w hw hr hg h hle (fun c' cs'' e => by injection e with e1 _; subst e1; omega)
  obtain ⟨gc, h1, h2⟩ := st.cut c cs' rfl hc (by omega)
  rw [Nat.zero_add] at h1 h2
  have hfl := app_flat h
  have hpl := parts_len hg h
  have gt := good_take gc (k := w - t.flatten.length) (by omega)
  have gp := good_pos gt
  have e : c.length = (c.take (w - t.flatten.length)).length + (c.drop (w - t.flatten.length)).length := by rw [← List.length_append, List.take_append_drop]
  rw [List.flatten_cons, List.length_append] at hfl
  refine ⟨gc, .inr ⟨t, _, rfl, gt, h1⟩, .inl h2.symm, ?_, ?_, ?_⟩
  · rw [List.flatten_cons, List.length_append]; omega
  · rw [flat_snoc, List.flatten_cons, List.length_append]; omega
  · rw [flat_snoc, List.length_append, List.length_cons, List.length_nil]; omega
structure WordsI (sg pl : Int) (ws : List (List Nat)) (j : Nat) : Prop where
  good : ∀ x ∈ ws, Good x ∧ x.length ≤ 40
  p1 : 1 ≤ pl
  p2 : pl ≤ 63
  len : (ws.length : Int) ≤ 6 * (pl - 1) + j
  s0 : 0 ≤ sg
  none : ws = [] → pl = 1 ∧ sg = 0
theorem joinW_le : ∀ {ws : List (List Nat)} {k : Nat}, (∀ x ∈ ws, x.length ≤ k) → (joinW ws).length ≤ ws.length * (k + 1)
  | [], _, _ => Nat.zero_le _
  | [w], k, h => by
    have := h w (.head _)
    show w.length ≤ 1 * (k + 1); omega
  | w :: x :: r, k, h => by
    have ih := joinW_le (ws := x :: r) (k := k) fun y hy => h y (.tail _ hy)
    have := h w (.head _)
    show (w ++ 32 :: joinW (x :: r)).length ≤ _
    rw [List.length_append, List.length_cons, List.length_cons (as := x :: r), Nat.succ_mul]
    omega
theorem WordsI.ends {sg pl : Int} {ws : List (List Nat)} (h : WordsI sg pl ws 0) : (joinW ws).length ≤ 50000 := by
  have h1 := joinW_le (ws := ws) (k := 40) fun x hx => (h.good x hx).2
  have h2 := h.len
  have h3 := h.p2
  have h4 : ws.length ≤ 372 := by omega
  have h5 : ws.length * 41 ≤ 372 * 41 := Nat.mul_le_mul_right _ h4
  omega
theorem wordsI_start : WordsI 0 1 [] 0 := ⟨nofun, by decide, by decide, by decide, by decide, fun _ => ⟨rfl, rfl⟩⟩
abbrev LET : PySem.Str := PySem.Str.ofString "abcdefghijklmnopqrstuvwxyzabcdefghijklmn"
theorem let_dec : ∀ a : Fin 7, ∀ b : Fin 41, 1 ≤ b.val → ((Txt.slice LET (some (a.val : Int)) (some ((a.val : Int) + (b.val : Int)))).cps.toList.all (fun c => decide (97 ≤ c) && decide (c ≤ 122)) && decide (1 ≤ (Txt.slice LET (some (a.val : Int)) (some ((a.val : Int) + (b.val : Int)))).length) && decide ((Txt.slice LET (some (a.val : Int)) (some ((a.val : Int) + (b.val : Int)))).length ≤ 40)) = true := by decide +kernel
theorem let_slice {a b : Int} (h0 : 0 ≤ a) (h1 : a < 7) (h2 : 1 ≤ b) (h3 : b ≤ 40) : ∃ c, Txt.slice LET (some a) (some (a + b)) = S c ∧ Good c ∧ c.length ≤ 40 := by
  have h := let_dec ⟨a.toNat, by omega⟩ ⟨b.toNat, by omega⟩ (by show 1 ≤ b.toNat; omega)
  dsimp only at h
  rw [show ((a.toNat : Nat) : Int) = a from by omega, show ((b.toNat : Nat) : Int) = b from by omega] at h
  simp only [Bool.and_eq_true, decide_eq_true_eq, List.all_eq_true] at h
  obtain ⟨⟨h4, h5⟩, h6⟩ := h
  refine ⟨(Txt.slice LET (some a) (some (a + b))).cps.toList, ?_, ⟨fun e => ?_, fun c hc => h4 c hc⟩, ?_⟩
  · exact PySem.Str.ext' (by simp [S])
  · have := congrArg List.length e
    rw [Array.length_toList, List.length_nil] at this
    have h7 : (Txt.slice LET (some a) (some (a + b))).length = (Txt.slice LET (some a) (some (a + b))).cps.size := rfl
    omega
  · rw [Array.length_toList]; exact h6
theorem WordsI.step {sg pl d : Int} {ws : List (List Nat)} {j j' : Nat} {c : List Nat} (h : WordsI sg pl ws j) (gc : Good c) (lc : c.length ≤ 40) (hd : 0 ≤ d) (hj : j' = j + 1) : WordsI (sg + d) pl (ws ++ [c]) j' := by
  refine ⟨fun x hx => ?_, h.p1, h.p2, ?_, by have := h.s0; omega, fun e => by simp at e⟩
  · rcases List.mem_append.mp hx with hx | hx
    · exact h.good x hx
    · rw [List.mem_singleton.mp hx]; exact ⟨gc, lc⟩
  · have := h.len
    rw [List.length_append, List.length_cons, List.length_nil]; omega
theorem WordsI.up {sg pl : Int} {ws : List (List Nat)} (h : WordsI sg pl ws 6) (hne : ws ≠ []) (hp : pl < 63) : WordsI sg (pl + 1) ws 0 := by
  refine ⟨h.good, by have := h.p1; omega, by omega, by have := h.len; omega, h.s0, fun e => absurd e hne⟩
-- Base4
/-- ways that meet: what stands behind a statement, by its letters -/
def JEnd {σ : Type} (h₀ : Heap) (L : Addr) (s : Shared) (Led : σ → List (Addr × Obj)) (ps : σ → List (Str × Value)) (Facts : σ → Prop) (stored : List Str) (m₀ : Str → Option Value) (P : σ → Prop) (s₂ : Shared) : Prop :=
  ∃ (c' : σ) (h' : Heap) (tk : Nat) (m' : Str → Option Value) (news' : List (Addr × Obj)), s₂ = { s with heap := h', toks := tk } ∧ Fr h₀ L h' m' ∧ News h₀ L h' news' ∧ (∀ p ∈ Led c', p ∈ news') ∧ Facts c' ∧ (∀ p ∈ ps c', m' p.1 = some p.2) ∧ (∀ z, (∀ p ∈ ps c', z ≠ p.1) → stored.contains z = false → m' z = m₀ z) ∧ P c'
def JPost {σ : Type} (h₀ : Heap) (L : Addr) (s : Shared) (Led : σ → List (Addr × Obj)) (ps : σ → List (Str × Value)) (Facts : σ → Prop) (stored : List Str) (m₀ : Str → Option Value) (P : σ → Prop) (f : Flow) (s₂ : Shared) : Prop :=
  f = .next ∧ JEnd h₀ L s Led ps Facts stored m₀ P s₂
theorem ksj {σ : Type} {M : Model} {A : Around} {E : Value → Shared → Prop} {Q : Flow → Shared → Prop} {t : Sem Flow} {s : Shared} {h₀ : Heap} {L : Addr} {m₀ : Str → Option Value} (Led : σ → List (Addr × Obj)) (ps : σ → List (Str × Value)) (Facts : σ → Prop) (stored : List Str) (P : σ → Prop)
    (F : Fr h₀ L s.heap m₀) (h : wpAny M A t (JPost h₀ L s Led ps Facts stored m₀ P) E s)
    (k : ∀ (c : σ) (u : Str → Option Value) h tk, Facts c → P c → Fr h₀ L h (kstB (fun z => if stored.contains z then u z else m₀ z) (ps c)) → News h₀ L h (Led c) → Q .next { s with heap := h, toks := tk }) : wpAny M A t Q E s := by
  refine wpAny_mono h (fun f s₂ hj => ?_) fun _ _ x => x
  obtain ⟨rfl, c', h', tk, m', news', rfl, F', N', hn, hf, hk, hr, hp⟩ := hj
  exact k c' m' h' tk hf hp (ksw_fr hk hr F') fun p hp => N' p (hn p hp)
theorem ksj_end {σ : Type} {h₀ : Heap} {L : Addr} {s : Shared} {Led : σ → List (Addr × Obj)} {ps : σ → List (Str × Value)} {Facts : σ → Prop} {stored : List Str} {m₀ m' : Str → Option Value} {P : σ → Prop} {h' : Heap} {tk : Nat} {news' : List (Addr × Obj)} (c' : σ)
    (F : Fr h₀ L h' m') (N : News h₀ L h' news') (hn : ∀ p ∈ Led c', p ∈ news') (hf : Facts c') (hk : ∀ p ∈ ps c', m' p.1 = some p.2) (hr : ∀ z, (∀ p ∈ ps c', z ≠ p.1) → stored.contains z = false → m' z = m₀ z) (hp : P c') :
    JPost h₀ L s Led ps Facts stored m₀ P .next { s with heap := h', toks := tk } := ⟨rfl, c', h', tk, m', news', rfl, F, N, hn, hf, hk, hr, hp⟩
local macro_rules | `(tactic| walk_at "JPost") => `(tactic| (refine haltP_in ?_))
theorem strs_lenle {vs : List Value} {ws : List (List Nat)} (h : StrsAre vs ((inter ws).map S)) (hw : ∀ x ∈ ws, Good x) (hz : (joinW ws).length ≤ 50000) : vs.length ≤ 50000 := by
  rw [strs_len h]
  have := dn_len (dn := inter ws) (rs := []) hw (by simp)
  omega
theorem seq_last (us : List Value) (v : Value) : seqIndex? (-1) (us ++ [v]).toArray.size = some us.length := by
  rw [List.size_toArray, List.length_append, PySem.seqIndex_neg (by decide) (by simp only [List.length_cons, List.length_nil]; omega)]
  congr 1
  simp only [List.length_cons, List.length_nil]; omega
theorem set_last (v' : Value) : ∀ (us : List Value) (v : Value), ki_setL (us ++ [v]) us.length v' = some (us ++ [v'])
  | [], v => rfl
  | x :: us, v => by
    show (match ki_setL (us ++ [v]) us.length v' with | some q => some (x :: q) | none => none) = _
    rw [set_last v' us v]; rfl
theorem del_last : ∀ (us : List Value) (v : Value), ki_delL (us ++ [v]) us.length = some us
  | [], v => rfl
  | x :: us, v => by
    show (match ki_delL (us ++ [v]) us.length with | some q => some (x :: q) | none => none) = _
    rw [del_last us v]
theorem rev_toArr (vs : List Value) : vs.toArray.toList.reverse = vs.reverse := rfl
section
variable {prog : Program} {w : World} {A : Around} {E : Value → Shared → Prop} {s : Shared} {h₀ : Heap} {L D : Addr} {m : Str → Option Value} {news news' : List (Addr × Obj)} {n : Nat}
theorem get_last {value slice : PySem.Expr} {us : List Value} {v : Value} {u : Tok} {Q : Value → Shared → Prop} (N : News h₀ L s.heap news) (hm : (D, listOf (us ++ [v]).toArray n) ∈ news) (h : Q v s)
    (hs : subscripted slice false (.ref D) (.int (-1) u) = operate [.ref D, .int (-1) u] (getItem (.ref D) (.int (-1) u)) := by with_unfolding_all rfl) :
    wpAny (model prog w) A (subscriptTail value slice (.ref D) (.int (-1) u)) Q E s := by
  have hl := News.isList N hm
  refine tail_any hl.typeIs slot_list_getitem.lookup (wpAny_getItem_list_neg hl (by decide) ?_ (by decide) ?_ h) hs
  · rw [List.size_toArray, List.length_append, List.length_cons, List.length_nil]; omega
  · have : ((-1 : Int) + ((us ++ [v]).toArray.size : Nat)).toNat = us.length := by
      rw [List.size_toArray, List.length_append, List.length_cons, List.length_nil]; omega
    rw [this]; simp
theorem truthy_snoc {us : List Value} {v : Value} {Q : Bool → Shared → Prop} (N : News h₀ L s.heap news) (hm : (D, listOf (us ++ [v]).toArray n) ∈ news) (hz : us.length ≤ 1000000) (h : Q true { s with toks := s.toks + 1 + 1 }) :
    wpAny (model prog w) A (truthy (.ref D)) Q E s := by
  refine wpAny_truthy_list (News.isList N hm) (by rw [List.size_toArray, List.length_append, List.length_cons, List.length_nil]; omega) ?_
  have e : (!(us ++ [v]).toArray.isEmpty) = true := by simp
  rw [e]; exact h
theorem truthy_nil {Q : Bool → Shared → Prop} (N : News h₀ L s.heap news) (hm : (D, listOf ([] : List Value).toArray n) ∈ news) (h : Q false { s with toks := s.toks + 1 + 1 }) :
    wpAny (model prog w) A (truthy (.ref D)) Q E s := by
  exact wpAny_truthy_list (News.isList N hm) (by decide) h
theorem truthy_pos {us : List Value} {Q : Bool → Shared → Prop} (N : News h₀ L s.heap news) (hm : (D, listOf us.toArray n) ∈ news) (hp : 0 < us.length) (hz : us.length ≤ 1000000) (h : Q true { s with toks := s.toks + 1 + 1 }) :
    wpAny (model prog w) A (truthy (.ref D)) Q E s := by
  refine wpAny_truthy_list (News.isList N hm) (by rw [List.size_toArray]; omega) ?_
  have e : (!us.toArray.isEmpty) = true := by
    cases us with
    | nil => exact absurd hp (Nat.lt_irrefl _)
    | cons _ _ => rfl
  rw [e]; exact h
theorem truthy_zero {us : List Value} {Q : Bool → Shared → Prop} (N : News h₀ L s.heap news) (hm : (D, listOf us.toArray n) ∈ news) (hp : us.length = 0) (h : Q false { s with toks := s.toks + 1 + 1 }) :
    wpAny (model prog w) A (truthy (.ref D)) Q E s := by
  have : us = [] := List.length_eq_zero_iff.mp hp
  subst this
  exact truthy_nil N hm h
theorem join_S {ls : List (List Nat)} {vs : List Value} {t : Tok} {Q : Value → Shared → Prop} (N : News h₀ L s.heap news) (hm : (D, listOf vs.toArray n) ∈ news) (hs : StrsAre vs (ls.map S)) (hz : ls.flatten.length + ls.length ≤ 1048576)
    (h : ∀ t' k, Q (.str (S ls.flatten) t') { s with toks := k }) : wpAny (model prog w) A (call (.builtin "str.join") [.str (PySem.Str.ofString "") t, .ref D]) Q E s := by
  refine join_listW (News.isList N hm) hs (by decide +kernel) (by rw [sum_S, List.length_map]; exact hz) fun t' k => ?_
  rw [join_flat]; exact h t' k
theorem join_SB {ls : List (List Nat)} {vs : List Value} {t : Tok} {Q : Value → Shared → Prop} (N : News h₀ L s.heap news) (hm : (D, listOf vs.toArray n) ∈ news) (hs : StrsAre vs (ls.map S)) (hz : ls.flatten.length + ls.length ≤ 1048576)
    (h : ∀ t' k, Q (.str (S (joinW ls)) t') { s with toks := k }) : wpAny (model prog w) A (call (.builtin "str.join") [.str (PySem.Str.ofString " ") t, .ref D]) Q E s := by
  refine join_listW (News.isList N hm) hs (by decide +kernel) (by rw [sum_S, List.length_map]; exact hz) fun t' k => ?_
  rw [join_blank]; exact h t' k
end
local macro_rules | `(tactic| walk_at "call builtin:str.join") => `(tactic| (k_here; (with_reducible show wpAny _ _ (call (Value.builtin "str.join") [Value.str _ _, Value.ref _]) _ _ _); k_dflt (first
  | (refine' join_S ?N ?m ?s ?z ?_; (case N => k_asm); (case m => k_mem); (case s => first | assumption | exact strs_snoc (by assumption) (by assumption)); (case z => first | assumption | omega); k_whole)
  | (refine' join_SB ?N ?m ?s ?z ?_; (case N => k_asm); (case m => k_mem); (case s => first | assumption | exact strs_snoc (by assumption) (by assumption)); (case z => first | assumption | omega); k_whole)); intro _ _))
local macro_rules | `(tactic| walk_at "subscriptTail Name UnaryOp ref int") => `(tactic| (k_here; (with_reducible show wpAny _ _ (subscriptTail _ _ (Value.ref _) (Value.int _ _)) _ _ _); k_dflt (refine' get_last ?N ?m ?_ ?hs; (case N => k_asm); (case m => k_mem); (case hs => with_unfolding_all rfl); k_whole)))
local macro_rules | `(tactic| walk_at "truthy ref") => `(tactic| (k_here; (with_reducible show wpAny _ _ (truthy (Value.ref _)) _ _ _); k_dflt (first
  | (refine' truthy_snoc ?N ?m ?z ?_; (case N => k_asm); (case m => k_mem); (case z => omega); k_whole)
  | (refine' truthy_nil ?N ?m ?_; (case N => k_asm); (case m => k_mem); k_whole)
  | (refine' truthy_pos ?N ?m ?p ?z ?_; (case N => k_asm); (case m => k_mem); (case p => omega); (case z => omega); k_whole)
  | (refine' truthy_zero ?N ?m ?p ?_; (case N => k_asm); (case m => k_mem); (case p => omega); k_whole))))
local macro_rules | `(tactic| walk_at "call builtin:list.reverse") => `(tactic| (k_here; (with_reducible show wpAny _ _ (call (Value.builtin _) [Value.ref _]) _ _ _); k_dflt (refine' kl_reverse ?F ?N ?e ?U ?z ?_; (case F => k_asm); (case N => k_asm); (case U => k_upd); (case e => exact rev_toArr _); (case z => ((show List.length _ ≤ sizeLine); (have hz := sizeLine_eq); omega)); k_whole); intro h' F' N'; (try k_sweep)))
local macro_rules | `(tactic| walk_at "call builtin:list.pop") => `(tactic| (k_here; (with_reducible show wpAny _ _ (call (Value.builtin _) [Value.ref _]) _ _ _); k_dflt (refine' kl_pop ?F ?N ?e ?U ?z ?_; (case F => k_asm); (case N => k_asm); (case U => k_upd); (case e => exact kpa_last _ _); (case z => ((show List.length (_ ++ [_]) ≤ sizeLine); (have hz := sizeLine_eq); rw [List.length_append, List.length_cons, List.length_nil]; omega)); k_whole); intro h' F' N'; (try k_sweep)))
local macro_rules | `(tactic| walk_at "delItem ref int") => `(tactic| (k_here; k_dflt (refine' ki_del ?F ?N ?f ?k ?e ?U ?z ?_; (case F => k_asm); (case N => k_asm); (case U => k_upd); (case f => rfl); (case k => exact seq_last _ _); (case e => exact del_last _ _); (case z => ((show List.length (_ ++ [_]) ≤ sizeLine); (have hz := sizeLine_eq); rw [List.length_append, List.length_cons, List.length_nil]; omega)); k_whole); intro h' F' N'; (try k_sweep)))
local macro_rules | `(tactic| walk_at "setItem ref int") => `(tactic| (k_here; k_dflt (refine' ki_setNeg ?F ?N ?a ?b ?j ?e ?U ?_; (case F => k_asm); (case N => k_asm); (case U => k_upd); (case a => decide); (case b => decide); (case j => exact seq_last _ _); (case e => exact set_last _ _ _); k_whole); intro h' F' N'; (try k_sweep)))
local macro_rules | `(tactic| walk_at "mine same1") => `(tactic| (intro z h1 h2 h3; (try simp only [List.forall_mem_cons, List.not_mem_nil, false_implies, implies_true, and_true, ne_eq] at h2); (try simp only [List.contains_cons, List.contains_nil, Bool.or_false, Bool.or_eq_false_iff, beq_eq_false_iff_ne, ne_eq] at h3); first | (with_reducible rfl) | (simp [kstB, h1, h2, h3]; done)))
-- D3
section
local macro_rules | `(tactic| walk_at "call ref") => `(tactic| ((with_reducible show wpAny _ _ (call (Value.ref 49) _) _ _ _); k_dflt (refine' split_use ?k1 ?k2 ?k3 ?k4 ?k5 rfl rfl rfl ?k6 ?k7 rfl rfl ?g1 ?g2 ?g3 ?_; (case k1 => k_asm); (case k2 => k_asm); (case k3 => k_asm); (case k4 => k_asm); (case k5 => k_asm); (case k6 => exact Nat.le_of_ble_eq_true rfl); (case k7 => exact Nat.le_of_ble_eq_true rfl); (case g1 => assumption); (case g2 => assumption); (case g3 => assumption); intro r' vs' n' h' tk' hs' hr' F' N'; (have hvl' := strs_lenle hs' (by assumption) (by assumption)); (refine plainly ?_); (try k_sweep))))
local macro_rules | `(tactic| walk_at "exec If BoolOp cons nil") => `(tactic| (refine halt_in ?_))
theorem wrap_use {w : World} {A A₀ : Around} {base h₀ : Heap} {env : Env} {outer : List Env} {L : Addr} {m mg mb : Str → Option Value} {mean : ExcName → Option Value} {news : List (Addr × Obj)} {s : Shared} {E Q : Value → Shared → Prop}
    {ws : List (List Nat)} {t1 t2 : Tok} {W : Nat}
    (B : Below A₀ base outer h₀) (F : Fr h₀ L s.heap m) (X : (hd.heap_39 w.params).In h₀) (N : News h₀ L s.heap news) (Tt : Tp mean mg mb h₀)
    (a1 : A.handled = none) (a2 : A.frames = some (env :: outer)) (a3 : A.guards = some []) (a4 : A.depth ≤ 380) (a5 : A.units ≤ 800) (hf : env.frame = some L) (hke : env.scope.kind = .function)
    (hw : ∀ x ∈ ws, Good x) (hn : ws ≠ []) (hsz : (joinW ws).length ≤ 50000) (hW1 : 1 ≤ W) (hW2 : W ≤ 60)
    (ret : ∀ r vs n lns h' tk', StrsAre vs (lns.map S) → Wraps W ws lns ∧ lns.length ≤ 50000 → s.heap.get? r = none → Fr h₀ L h' m → News h₀ L h' ((r, listOf vs.toArray n) :: news) → Q (.ref r) { s with heap := h', toks := tk' }) :
    wpAny (model PR w) A (call (.ref 56) [.str (S (joinW ws)) t1, .int W t2]) Q E s := by
  refine weaken (d := 380) (u := 800) a1 a2 a3 a4 a5 ?_
  have hL := S_length (joinW ws)
  walk_at "prime"
  let Out : Value → List (Addr × Obj) → Prop := fun v nx => ∃ r vs n lns, v = .ref r ∧ (r, listOf vs.toArray n) ∈ nx ∧ StrsAre vs (lns.map S) ∧ Wraps W ws lns ∧ lns.length ≤ 50000
  walk_at "f_enter"
  case ret =>
    intro v h' tk' news' F' N' hn hst ho
    obtain ⟨r, vs, n, lns, rfl, hm, hs, hwr⟩ := ho
    exact ret r vs n lns _ _ hs hwr (hn _ hm) F' fun p hp => N' p (by
      rcases List.mem_cons.mp hp with rfl | hp
      · exact List.mem_append_left _ hm
      · exact List.mem_append_right _ hp)
  intro h₁ F' N' B' X' T'
  clear B F X N Tt a1 a2 a3 a4 a5 hf hke ret
  walk_at "mine go"
  refine halt_out ?_
  (rename Fr _ _ _ _ => F)
  (rename News _ _ _ _ => N)
  refine KStt.kst_text (σ := PySem.Str × Tok × Int × Tok) (fun _ => []) (fun c => [(PySem.Str.ofString "plain", .str c.1 c.2.1), (PySem.Str.ofString "column", .int c.2.2.1 c.2.2.2)]) (fun _ => True) [] (fun pre c => c.1 = KStt.txt pre) (PySem.Str.ofString "", _, 0, _)
    rfl F N trivial (by kst_all) (by exact str_noneS) ?_ ?_
  · intro ⟨pl, tp, cl, tc⟩ pre post n t u h tk own hcd ho _ hP F N
    dsimp only at hP F N ⊢
    obtain ⟨e1, e2, e3⟩ := sgn_all hw hcd
    have hpl : pl.length ≤ 50000 := by rw [hP, KStt.txt_length]; have := code_len hcd; omega
    walk_at "mine go"
    (rename News _ _ _ _ => nE)
    refine haltP_out (kst_end ⟨pl ++ ⟨#[n]⟩, _, cl + 1, _⟩ (by assumption) nE (fun _ hp => nomatch hp) (fun _ hp => hp) rfl trivial (by kst_all) ?_ ?_)
    · walk_at "mine same1"
    · show pl ++ ⟨#[n]⟩ = KStt.txt (pre ++ [(n : Int)])
      rw [KStt.txt_snoc, hP]
  · intro ⟨pl, tp, cl, tc⟩ u h tk _ hP F N
    dsimp only at hP F N ⊢
    rw [KStt.txt_codes] at hP
    subst hP
    walk_at "mine go"
    refine halt_out ?_
    (rename Fr _ _ _ _ => F)
    (rename News _ _ _ _ => N)
    (rename StrsAre _ _ => hs0)
    obtain ⟨l, hl⟩ := name1 N
    subst hl
    obtain ⟨r, hr⟩ := name2 N
    subst hr
    refine ksw_while (σ := List Value × Nat × List Value × Nat × List (List Nat) × List (List Nat)) (fun c => [(l, listOf c.1.toArray c.2.1), (r, listOf c.2.2.1.toArray c.2.2.2.1)]) (fun _ => [])
      (fun c => StrsAre c.1 (c.2.2.2.2.1.map S) ∧ StrsAre c.2.2.1 (c.2.2.2.2.2.reverse.map S)) [PySem.Str.ofString "cur_line", PySem.Str.ofString "cur_len", PySem.Str.ofString "end", PySem.Str.ofString "hyphen"]
      (fun c => ∃ rem, OutI W ws c.2.2.2.2.1 c.2.2.2.2.2 rem) (fun c => c.2.2.2.2.2.flatten.length) ([], 0, _, _, [], inter ws) F (by exact N) (by exact ⟨.nil, strs_revS hs0⟩) (by kst_all)
      (by exact ⟨ws, hw, .inl rfl, fun ls h => h, by rw [inter_flatten]; exact Nat.le_of_eq (Nat.zero_add _)⟩) ?_
    intro ⟨lv, ln, cv, cn, lns, cs⟩ u h tk hs hP F N
    dsimp only at hs hP F N ⊢
    obtain ⟨rem, hP⟩ := hP
    obtain ⟨hsl, hsc⟩ := hs
    rcases cs with _ | ⟨c, cs⟩
    · have := strs_nilI hsc
      subst this
      walk_at "mine go"
      walk_at "mine back"
      have hr0 : rem = [] := by
        rcases hP.form with h | ⟨h, _⟩
        · exact inter_nilI h.symm
        · cases h
      subst hr0
      exact ⟨l, lv, ln, lns, rfl, .head _, hsl, by simpa using hP.wr [] .nil, by have := hP.lens.1; omega⟩
    · obtain ⟨us, t, rfl, hus⟩ := strs_topS hsc
      have hlens := hP.lens
      have hmf := mem_flat_len (c := c) (cs := cs)
      have hul : us.length ≤ 50000 := by rw [strs_len hus, List.length_reverse]; have := hlens.2.1; rw [List.length_cons] at this; omega
      have hlvl : lv.length ≤ 50000 := by rw [strs_len hsl]; omega
      have hll := strs_len hsl
      have hcl : (S c).length ≤ 50000 := by rw [S_length]; omega
      have hg := hP.good
      have hwr := hP.wr
      have hlen0 := hP.len
      have hrem : rem ≠ [] := by rcases hP.first with ⟨_, h, _⟩ | ⟨_, _, h, _⟩ <;> exact h
      have hmu : (inter rem).flatten.length ≤ (c :: cs).flatten.length := by
        rcases hP.first with ⟨_, _, h⟩ | ⟨_, _, _, h⟩
        · rw [h]; exact Nat.le_refl _
        · rw [← h, List.flatten_cons, List.length_append]; omega
      have hlen : lns.length + (inter rem).flatten.length ≤ (joinW ws).length := by omega
      walk_at "mine go"
      refine halt_out ?_
      (rename Fr _ _ _ _ => F)
      (rename News _ _ _ _ => N)
      obtain ⟨q, hq⟩ := name1 N
      subst hq
      -- the blank at the line's head
      refine ksj (σ := List Value × Nat) (fun c => [(q, listOf ([] : List Value).toArray 0), (l, listOf lv.toArray ln), (r, listOf c.1.toArray c.2)]) (fun _ => []) (fun c => StrsAre c.1 ((inter rem).reverse.map S)) [] (fun _ => True) F ?_ ?_
      · refine wpAny_If ?_
        rcases hP.first with ⟨gc, _, hin⟩ | ⟨rfl, hln, _, hin⟩
        · have e1 := strip_ne gc
          have hin := hin ▸ hsc
          by_cases hz : lns.length = 0
          · walk_at "mine go"
            (rename News _ _ _ _ => nE)
            exact haltP_out (ksj_end ⟨_, _⟩ (by assumption) nE (fun _ hp => hp) hin (by kst_all) (by walk_at "mine same") trivial)
          · walk_at "mine go"
            (rename News _ _ _ _ => nE)
            exact haltP_out (ksj_end ⟨_, _⟩ (by assumption) nE (fun _ hp => hp) hin (by kst_all) (by walk_at "mine same") trivial)
        · have e1 := strip_blank
          have hz : lns.length ≠ 0 := fun e => hln (List.length_eq_zero_iff.mp e)
          have hin := hin ▸ hus
          walk_at "mine go"
          (rename News _ _ _ _ => nE)
          exact haltP_out (ksj_end ⟨_, _⟩ (by assumption) nE (fun _ hp => hp) hin (by kst_all) (by walk_at "mine same") trivial)
      clear F N
      intro ⟨dv0, dn0⟩ u1 h1 tk1 hin _ F N
      dsimp only at hin F N
      clear hlen0 hP hsc hus hlens hmf hcl
      walk_at "mine go"
      refine halt_out ?_
      -- the line is filled
      (rename Fr _ _ _ _ => F)
      (rename News _ _ _ _ => N)
      refine ksj (σ := List Value × Nat × List Value × Nat × Int × Tok × List (List Nat) × List (List Nat)) (fun c => [(q, listOf c.1.toArray c.2.1), (l, listOf lv.toArray ln), (r, listOf c.2.2.1.toArray c.2.2.2.1)]) (fun c => [(PySem.Str.ofString "cur_len", .int c.2.2.2.2.1 c.2.2.2.2.2.1)])
        (fun c => StrsAre c.1 (c.2.2.2.2.2.2.1.map S) ∧ StrsAre c.2.2.1 (c.2.2.2.2.2.2.2.reverse.map S)) []
        (fun c => c.2.2.2.2.2.2.1 ++ c.2.2.2.2.2.2.2 = inter rem ∧ c.2.2.2.2.1 = (c.2.2.2.2.2.2.1.flatten.length : Int) ∧ c.2.2.2.2.2.2.1.flatten.length ≤ W ∧ ∀ x y, c.2.2.2.2.2.2.2 = x :: y → W < c.2.2.2.2.2.2.1.flatten.length + x.length) F ?_ ?_
      · refine ksw_while (σ := List Value × Nat × List Value × Nat × Int × Tok × List (List Nat) × List (List Nat)) (fun c => [(q, listOf c.1.toArray c.2.1), (l, listOf lv.toArray ln), (r, listOf c.2.2.1.toArray c.2.2.2.1)]) (fun c => [(PySem.Str.ofString "cur_len", .int c.2.2.2.2.1 c.2.2.2.2.2.1)])
          (fun c => StrsAre c.1 (c.2.2.2.2.2.2.1.map S) ∧ StrsAre c.2.2.1 (c.2.2.2.2.2.2.2.reverse.map S)) []
          (fun c => c.2.2.2.2.2.2.1 ++ c.2.2.2.2.2.2.2 = inter rem ∧ c.2.2.2.2.1 = (c.2.2.2.2.2.2.1.flatten.length : Int) ∧ c.2.2.2.2.2.2.1.flatten.length ≤ W) (fun c => c.2.2.2.2.2.2.2.length)
          ([], 0, _, _, 0, _, [], inter rem) F (by exact N) ⟨.nil, hin⟩ (by kst_all) ⟨rfl, rfl, Nat.zero_le _⟩ ?_
        clear F N
        intro ⟨qv, qn, dv, dn, cl, tl, tkn, cs2⟩ u2 h2 tk2 hs2 hP2 F N
        dsimp only at hs2 hP2 F N ⊢
        obtain ⟨hP2, hcl2, hle⟩ := hP2
        obtain ⟨hsq, hsd⟩ := hs2
        have hfl := app_flat hP2
        have hpl := parts_len hg hP2
        have hql : qv.length ≤ 50000 := by rw [strs_len hsq]; omega
        have hdl : dv.length ≤ 50000 := by rw [strs_len hsd, List.length_reverse]; omega
        rcases cs2 with _ | ⟨c2, cs3⟩
        · have := strs_nilI hsd
          subst this
          walk_at "mine go"
          (rename News _ _ _ _ => nE)
          exact haltP_out (ksj_end ⟨_, _, _, _, _, _, tkn, []⟩ (by assumption) nE (fun _ hp => hp) ⟨hsq, hsd⟩ (by kst_all) (by walk_at "mine same") ⟨hP2, hcl2, hle, fun _ _ e => nomatch e⟩)
        · obtain ⟨du, td, rfl, hdu⟩ := strs_topS hsd
          have hSc := S_length c2
          have hcf := mem_flat_len (c := c2) (cs := cs3)
          rw [List.length_append, List.length_cons, List.length_nil] at hdl
          by_cases hfit : tkn.flatten.length + c2.length ≤ W
          · walk_at "mine go"
            (rename News _ _ _ _ => nE)
            (try simp only [List.push_toArray] at nE)
            refine haltP_out (ksw_end ⟨qv ++ [.str (S c2) td], _, du, _, cl + ((S c2).length : Nat), _, tkn ++ [c2], cs3⟩ (by assumption) nE (fun _ hp => hp) ⟨strs_snoc hsq rfl, hdu⟩ (by kst_all) (by walk_at "mine same") ⟨snoc_eq hP2, ?_, ?_⟩ (Nat.lt_succ_self _))
            · show cl + ((S c2).length : Nat) = (((tkn ++ [c2]).flatten.length : Nat) : Int)
              rw [flat_snoc]; omega
            · show (tkn ++ [c2]).flatten.length ≤ W
              rw [flat_snoc]; omega
          · walk_at "mine go"
            (rename News _ _ _ _ => nE)
            exact haltP_out (ksj_end ⟨_, _, _, _, _, _, tkn, c2 :: cs3⟩ (by assumption) nE (fun _ hp => hp) ⟨hsq, hsd⟩ (by kst_all) (by walk_at "mine same") ⟨hP2, hcl2, hle, fun x y e => by injection e with e1 _; subst e1; show W < tkn.flatten.length + c2.length; omega⟩)
      clear F N
      intro ⟨qv, qn, dv, dn, cl, tl, tkn, cs2⟩ u2 h2 tk2 hs2 hP2 F N
      dsimp only at hs2 hP2 F N ⊢
      obtain ⟨hP2, hcl2, hle, hmax⟩ := hP2
      obtain ⟨hsq, hsd⟩ := hs2
      have hfl := app_flat hP2
      have hpl := parts_len hg hP2
      have hql : qv.length ≤ 50000 := by rw [strs_len hsq]; omega
      have hdl : dv.length ≤ 50000 := by rw [strs_len hsd, List.length_reverse]; omega
      walk_at "mine go"
      refine halt_out ?_
      (rename Fr _ _ _ _ => F)
      (rename News _ _ _ _ => N)
      -- a long word is cut
      refine ksj (σ := List Value × Nat × List Value × Nat × List (List Nat) × List (List Nat)) (fun c => [(q, listOf c.1.toArray c.2.1), (l, listOf lv.toArray ln), (r, listOf c.2.2.1.toArray c.2.2.2.1)]) (fun _ => [])
        (fun c => StrsAre c.1 (c.2.2.2.2.1.map S) ∧ StrsAre c.2.2.1 (c.2.2.2.2.2.reverse.map S)) [PySem.Str.ofString "end", PySem.Str.ofString "hyphen"] (fun c => PostC W rem c.2.2.2.2.1 c.2.2.2.2.2) F ?_ ?_
      · refine wpAny_If ?_
        rcases cs2 with _ | ⟨c2, cs3⟩
        · have := strs_nilI hsd
          subst this
          have hpost := post_plain hW1 hrem hg hP2 hle hmax (fun _ _ e => nomatch e)
          walk_at "mine go"
          (rename News _ _ _ _ => nE)
          exact haltP_out (ksj_end ⟨_, _, _, _, tkn, []⟩ (by assumption) nE (fun _ hp => hp) ⟨hsq, hsd⟩ (by kst_all) (by walk_at "mine same") hpost)
        · obtain ⟨du, td, rfl, hdu⟩ := strs_topS hsd
          have hSc := S_length c2
          have hcf := mem_flat_len (c := c2) (cs := cs3)
          rw [List.length_append, List.length_cons, List.length_nil] at hdl
          by_cases hA : W < c2.length
          · by_cases hB : tkn.flatten.length < W
            · obtain ⟨gc2, hpost⟩ := post_cut hW1 hrem hg hP2 hle hA hB
              have eS : Txt.slice (S c2) none (some ((W : Int) - cl)) = S (c2.take (W - tkn.flatten.length)) := by
                rw [slice_toS (by omega)]
                congr 2
                omega
              have eR : Txt.slice (S c2) (some ((W : Int) - cl)) none = S (c2.drop (W - tkn.flatten.length)) := by
                rw [slice_fromS (by omega)]
                congr 2
                omega
              have hr : Txt.rfind (Txt.slice (S c2) none (some ((W : Int) - cl))) (PySem.Str.ofString "-") = -1 := by
                rw [eS]
                exact rfind_dash fun x hx => gc2.2 x (List.mem_of_mem_take hx)
              walk_at "mine go"
              refine halt_out (wpAny_If ?_)
              walk_at "mine go"
              (rename News _ _ _ _ => nE)
              (try simp only [List.push_toArray] at nE)
              refine haltP_out (ksj_end ⟨qv ++ [.str (Txt.slice (S c2) none (some ((W : Int) - cl))) _], _, du ++ [.str (Txt.slice (S c2) (some ((W : Int) - cl)) none) _], _, tkn ++ [c2.take (W - tkn.flatten.length)], c2.drop (W - tkn.flatten.length) :: cs3⟩ (by assumption) nE (fun _ hp => hp) ⟨strs_snoc hsq eS, ?_⟩ (by kst_all) (by walk_at "mine same") hpost)
              show StrsAre _ ((c2.drop (W - tkn.flatten.length) :: cs3).reverse.map S)
              rw [List.reverse_cons]
              exact strs_snoc hdu eR
            · have hpost := post_plain hW1 hrem hg hP2 hle hmax (fun _ _ _ _ => hB)
              walk_at "mine go"
              (rename News _ _ _ _ => nE)
              exact haltP_out (ksj_end ⟨_, _, _, _, tkn, c2 :: cs3⟩ (by assumption) nE (fun _ hp => hp) ⟨hsq, hsd⟩ (by kst_all) (by walk_at "mine same") hpost)
          · have hpost := post_plain hW1 hrem hg hP2 hle hmax (fun x y e h => by injection e with e1 _; subst e1; exact absurd h hA)
            walk_at "mine go"
            (rename News _ _ _ _ => nE)
            exact haltP_out (ksj_end ⟨_, _, _, _, tkn, c2 :: cs3⟩ (by assumption) nE (fun _ hp => hp) ⟨hsq, hsd⟩ (by kst_all) (by walk_at "mine same") hpost)
      clear F N hsq hsd hP2 hcl2 hle hmax hfl hpl hql hdl
      intro ⟨qv, qn, dv, dn, tkn, cs2⟩ u3 h3 tk3 hs2 hpost F N
      dsimp only at hs2 hpost F N ⊢
      obtain ⟨hsq, hsd⟩ := hs2
      have htl := hpost.tl
      have hts := hpost.ts
      have hql : qv.length ≤ 50000 := by rw [strs_len hsq]; omega
      walk_at "mine go"
      refine halt_out ?_
      (rename Fr _ _ _ _ => F)
      (rename News _ _ _ _ => N)
      -- a blank at the line's end goes
      refine ksj (σ := List Value × Nat × List (List Nat)) (fun c => [(q, listOf c.1.toArray c.2.1), (l, listOf lv.toArray ln), (r, listOf dv.toArray dn)]) (fun _ => [])
        (fun c => StrsAre c.1 (c.2.2.map S)) [] (fun c => 0 < c.2.2.length ∧ c.2.2.length ≤ 50000 ∧ c.2.2.flatten.length ≤ 50000 ∧ c.2.2.flatten = (lineF W rem).1) F ?_ ?_
      · refine wpAny_If ?_
        rcases hpost.last with ⟨t', rfl, ht0, hline⟩ | ⟨t', g, rfl, gg, hline⟩
        · obtain ⟨qu, tq, rfl, hqu⟩ := strs_lastS hsq
          have e2 := strip_blank
          rw [List.length_append, List.length_cons, List.length_nil] at hql hts
          rw [flat_snoc] at htl hts
          walk_at "mine go"
          (rename News _ _ _ _ => nE)
          exact haltP_out (ksj_end ⟨_, _, t'⟩ (by assumption) nE (fun _ hp => hp) hqu (by kst_all) (by walk_at "mine same") ⟨ht0, by show t'.length ≤ 50000; omega, by show t'.flatten.length ≤ 50000; omega, hline⟩)
        · obtain ⟨qu, tq, rfl, hqu⟩ := strs_lastS hsq
          have e2 := strip_ne gg
          have hgl : (S g).length ≤ 50000 := by rw [S_length]; rw [flat_snoc] at htl; omega
          have htl2 := htl
          rw [List.length_append, List.length_cons, List.length_nil] at hql
          walk_at "mine go"
          (rename News _ _ _ _ => nE)
          exact haltP_out (ksj_end ⟨_, _, t' ++ [g]⟩ (by assumption) nE (fun _ hp => hp) hsq (by kst_all) (by walk_at "mine same") ⟨by show 0 < (t' ++ [g]).length; simp, by show (t' ++ [g]).length ≤ 50000; omega, by show (t' ++ [g]).flatten.length ≤ 50000; omega, hline⟩)
      clear F N hsq hql hts
      intro ⟨qv, qn, lst⟩ u4 h4 tk4 hsq hj F N
      dsimp only at hsq hj F N ⊢
      obtain ⟨hj1, hj2, hj3, hj4⟩ := hj
      have hql : qv.length = lst.length := strs_len hsq
      walk_at "mine go"
      (rename News _ _ _ _ => nE)
      (try simp only [List.push_toArray] at nE)
      refine haltP_out (ksw_end ⟨lv ++ [.str (S lst.flatten) _], _, dv, _, lns ++ [lst.flatten], cs2⟩ (by assumption) nE (fun _ hp => List.mem_cons_of_mem _ hp) ⟨strs_snoc hsl rfl, hsd⟩ (by kst_all) (by walk_at "mine same") ?_ ?_)
      · exact ⟨_, OutI.next hg hwr hrem hlen hj4 hpost.form hpost.lt⟩
      · show cs2.flatten.length < (c :: cs).flatten.length
        have := hpost.lt
        omega
end
-- D4
section
section
local macro_rules | `(tactic| walk_at "call ref") => `(tactic| ((with_reducible show wpAny _ _ (call (Value.ref 56) _) _ _ _); k_dflt (refine' wrap_use ?k1 ?k2 ?k3 ?k4 ?k5 rfl rfl rfl ?k6 ?k7 rfl rfl ?g1 ?g2 ?g3 ?g4 ?g5 ?_; (case k1 => k_asm); (case k2 => k_asm); (case k3 => k_asm); (case k4 => k_asm); (case k5 => k_asm); (case k6 => exact Nat.le_of_ble_eq_true rfl); (case k7 => exact Nat.le_of_ble_eq_true rfl); (case g1 => assumption); (case g2 => assumption); (case g3 => assumption); (case g4 => assumption); (case g5 => assumption); intro r' vs' n' lns' h' tk' hs' hw' hr' F' N'; (try k_sweep))))
theorem tw_use {w : World} {A A₀ : Around} {base h₀ : Heap} {env : Env} {outer : List Env} {L : Addr} {m mg mb : Str → Option Value} {mean : ExcName → Option Value} {news : List (Addr × Obj)} {s : Shared} {E Q : Value → Shared → Prop}
    {ws : List (List Nat)} {t1 t2 : Tok} {W : Nat}
    (B : Below A₀ base outer h₀) (F : Fr h₀ L s.heap m) (X : (hd.heap_39 w.params).In h₀) (N : News h₀ L s.heap news) (Tt : Tp mean mg mb h₀)
    (a1 : A.handled = none) (a2 : A.frames = some (env :: outer)) (a3 : A.guards = some []) (a4 : A.depth ≤ 370) (a5 : A.units ≤ 700) (hf : env.frame = some L) (hke : env.scope.kind = .function)
    (hw : ∀ x ∈ ws, Good x) (hn : ws ≠ []) (hsz : (joinW ws).length ≤ 50000) (hW1 : 1 ≤ W) (hW2 : W ≤ 60)
    (ret : ∀ r vs n lns h' tk', StrsAre vs (lns.map S) → Wraps W ws lns ∧ lns.length ≤ 50000 → s.heap.get? r = none → Fr h₀ L h' m → News h₀ L h' ((r, listOf vs.toArray n) :: news) → Q (.ref r) { s with heap := h', toks := tk' }) :
    wpAny (model PR w) A (call (.ref 63) [.str (S (joinW ws)) t1, .int W t2]) Q E s := by
  refine weaken (d := 370) (u := 700) a1 a2 a3 a4 a5 ?_
  walk_at "prime"
  let Out : Value → List (Addr × Obj) → Prop := fun v nx => ∃ r vs n lns, v = .ref r ∧ (r, listOf vs.toArray n) ∈ nx ∧ StrsAre vs (lns.map S) ∧ Wraps W ws lns ∧ lns.length ≤ 50000
  walk_at "f_enter"
  case ret =>
    intro v h' tk' news' F' N' hn hst ho
    obtain ⟨r, vs, n, lns, rfl, hm, hs, hwr⟩ := ho
    exact ret r vs n lns _ _ hs hwr (hn _ hm) F' fun p hp => N' p (by
      rcases List.mem_cons.mp hp with rfl | hp
      · exact List.mem_append_left _ hm
      · exact List.mem_append_right _ hp)
  intro h₁ F' N' B' X' T'
  clear B F X N Tt a1 a2 a3 a4 a5 hf hke ret
  walk_at "mine go"
  walk_at "mine back"
  exact ⟨_, _, _, _, rfl, .head _, by assumption, by assumption⟩
end
theorem raw_use {w : World} {A A₀ : Around} {base h₀ : Heap} {env : Env} {outer : List Env} {L : Addr} {m mg mb : Str → Option Value} {mean : ExcName → Option Value} {news : List (Addr × Obj)} {s : Shared} {E Q : Value → Shared → Prop}
    {vs : List Value} {ns : List Int} {l : Addr} {p : Int} {t2 : Tok}
    (B : Below A₀ base outer h₀) (F : Fr h₀ L s.heap m) (X : (hd.heap_39 w.params).In h₀) (N : News h₀ L s.heap news) (Tt : Tp mean mg mb h₀)
    (a1 : A.handled = none) (a2 : A.frames = some (env :: outer)) (a3 : A.guards = some []) (a4 : A.depth ≤ 400) (a5 : A.units ≤ 1000) (hf : env.frame = some L) (hke : env.scope.kind = .function)
    (hl : s.heap.IsList l vs.toArray) (hi : IntsAre vs ns) (hz : ns.length ≤ 63) (hp0 : 0 ≤ p) (hp1 : p ≤ 1000)
    (ret : ∀ z t h' tk', Fr h₀ L h' m → News h₀ L h' news → Q (.int z t) { s with heap := h', toks := tk' }) :
    wpAny (model PR w) A (call (.ref 70) [.ref l, .int p t2]) Q E s := by
  refine weaken (d := 400) (u := 1000) a1 a2 a3 a4 a5 ?_
  have hvl : vs.length = ns.length := hi.length
  walk_at "prime"
  let Out : Value → List (Addr × Obj) → Prop := fun v nx => ∃ z t, v = .int z t
  walk_at "f_enter"
  case ret =>
    intro v h' tk' news' F' N' hn hst ho
    obtain ⟨z, t, rfl⟩ := ho
    exact ret z t _ _ F' fun p hp => N' p (List.mem_append_right _ hp)
  intro h₁ F' N' B' X' T'
  clear B F X N Tt a1 a2 a3 a4 a5 hf hke ret
  walk_at "mine go"
  all_goals (walk_at "mine back"; exact ⟨_, _, rfl⟩)
end
-- D5
section
section
local macro_rules | `(tactic| walk_at "eval Call Name") => `(tactic| refine Call_ ?_)
local macro_rules | `(tactic| walk_at "call ref") => `(tactic| ((with_reducible show wpAny _ _ (call (Value.ref 70) _) _ _ _); k_dflt (refine' raw_use ?k1 ?k2 ?k3 ?k4 ?k5 rfl rfl rfl ?k6 ?k7 rfl rfl ?g1 ?g2 ?g3 ?g4 ?g5 ?_; (case k1 => k_asm); (case k2 => k_asm); (case k3 => k_asm); (case k4 => k_asm); (case k5 => k_asm); (case k6 => exact Nat.le_of_ble_eq_true rfl); (case k7 => exact Nat.le_of_ble_eq_true rfl); (case g1 => first | exact Fr.lst (by assumption) (by assumption) | exact News.isList (by k_asm) (by k_mem)); (case g2 => assumption); (case g3 => assumption); (case g4 => omega); (case g5 => omega); intro z' t' h' tk' F' N'; (try k_sweep))))
theorem words_use {w : World} {A A₀ : Around} {base h₀ : Heap} {env : Env} {outer : List Env} {L : Addr} {m mg mb : Str → Option Value} {mean : ExcName → Option Value} {news : List (Addr × Obj)} {s : Shared} {E Q : Value → Shared → Prop}
    {vs : List Value} {ns : List Int} {l : Addr}
    (B : Below A₀ base outer h₀) (F : Fr h₀ L s.heap m) (X : (hd.heap_39 w.params).In h₀) (N : News h₀ L s.heap news) (Tt : Tp mean mg mb h₀)
    (a1 : A.handled = none) (a2 : A.frames = some (env :: outer)) (a3 : A.guards = some []) (a4 : A.depth ≤ 390) (a5 : A.units ≤ 900) (hf : env.frame = some L) (hke : env.scope.kind = .function)
    (hl : s.heap.IsList l vs.toArray) (hi : IntsAre vs ns) (hz : ns.length ≤ 63)
    (ret : ∀ r vs n ws h' tk', StrsAre vs (ws.map S) → (∀ x ∈ ws, Good x) → ws ≠ [] → (joinW ws).length ≤ 50000 → s.heap.get? r = none → Fr h₀ L h' m → News h₀ L h' ((r, listOf vs.toArray n) :: news) → Q (.ref r) { s with heap := h', toks := tk' }) :
    wpAny (model PR w) A (call (.ref 77) [.ref l]) Q E s := by
  refine weaken (d := 390) (u := 900) a1 a2 a3 a4 a5 ?_
  have hvl : vs.length = ns.length := hi.length
  walk_at "prime"
  let Out : Value → List (Addr × Obj) → Prop := fun v nx => ∃ r vs n ws, v = .ref r ∧ (r, listOf vs.toArray n) ∈ nx ∧ StrsAre vs (ws.map S) ∧ (∀ x ∈ ws, Good x) ∧ ws ≠ [] ∧ (joinW ws).length ≤ 50000
  walk_at "f_enter"
  case ret =>
    intro v h' tk' news' F' N' hn hst ho
    obtain ⟨r, vs, n, ws, rfl, hm, hs, h1, h2, h3⟩ := ho
    exact ret r vs n ws _ _ hs h1 h2 h3 (hn _ hm) F' fun p hp => N' p (by
      rcases List.mem_cons.mp hp with rfl | hp
      · exact List.mem_append_left _ hm
      · exact List.mem_append_right _ hp)
  intro h₁ F' N' B' X' T'
  clear B F X N Tt a1 a2 a3 a4 a5 hf hke ret
  walk_at "mine go"
  refine halt_out ?_
  (rename Fr _ _ _ _ => F)
  (rename News _ _ _ _ => N)
  obtain ⟨q, hq⟩ := name1 N
  subst hq
  refine ksw_while (σ := List Value × Nat × Int × Tok × Int × Tok × List (List Nat)) (fun c => [(q, listOf c.1.toArray c.2.1)]) (fun c => [(PySem.Str.ofString "signs", .int c.2.2.1 c.2.2.2.1), (PySem.Str.ofString "place", .int c.2.2.2.2.1 c.2.2.2.2.2.1)])
    (fun c => StrsAre c.1 (c.2.2.2.2.2.2.map S)) [PySem.Str.ofString "number", PySem.Str.ofString "turn", PySem.Str.ofString "look", PySem.Str.ofString "size"]
    (fun c => WordsI c.2.2.1 c.2.2.2.2.1 c.2.2.2.2.2.2 0) (fun c => (63 - c.2.2.2.2.1).toNat) ([], 0, 0, _, 1, _, []) F (by exact N) .nil (by kst_all) wordsI_start ?_
  intro ⟨wv, wn, sg, tsg, pl, tpl, ws⟩ u h tk hs hP F N
  dsimp only at hs hP F N ⊢
  have hp1 := hP.p1
  have hp2 := hP.p2
  by_cases hgo : sg < 260 ∧ pl < 63
  · walk_at "mine go"
    refine halt_out ?_
    (rename Fr _ _ _ _ => F)
    (rename News _ _ _ _ => N)
    refine kst_range (σ := List Value × Nat × Int × Tok × List (List Nat)) (n := 6) (fun c => [(q, listOf c.1.toArray c.2.1)]) (fun c => [(PySem.Str.ofString "signs", .int c.2.2.1 c.2.2.2.1)]) (fun c => StrsAre c.1 (c.2.2.2.2.map S)) [PySem.Str.ofString "look", PySem.Str.ofString "size"]
      (fun pre c => WordsI c.2.2.1 pl c.2.2.2.2 pre.length ∧ (0 < pre.length → c.2.2.2.2 ≠ [])) (wv, wn, sg, _, ws) rfl (by assumption) (by decide) (by decide) F N hs (by kst_all) ⟨hP, fun h => absurd h (Nat.lt_irrefl 0)⟩ ?_ ?_
    · intro ⟨xv, xn, xs, xt, ys⟩ pre k t u2 h2 tk2 own hk hlt hoff hs2 hP2 F N
      dsimp only at hs2 hP2 F N ⊢
      obtain ⟨hP2, hne⟩ := hP2
      refine wpAny_execs_cons ?_
      refine ksj (σ := Int × Tok) (fun _ => [(q, listOf xv.toArray xn)] ++ own) (fun c => [(PySem.Str.ofString "look", .int c.1 c.2)]) (fun _ => True) [] (fun c => 0 ≤ c.1 ∧ c.1 < 72) F ?_ ?_
      · have hk6 : k = 0 ∨ k = 1 ∨ k = 2 ∨ k = 3 ∨ k = 4 ∨ k = 5 := by omega
        clear hk
        rcases hk6 with rfl | rfl | rfl | rfl | rfl | rfl
        all_goals (
          walk_at "mine go"
          (rename News _ _ _ _ => nE)
          refine haltP_out (ksj_end ⟨_, _⟩ (by assumption) nE (fun _ hp => hp) trivial (by kst_all) (by walk_at "mine same") ?_)
          exact ⟨Int.fmod_nonneg_of_pos _ (by decide), Int.fmod_lt_of_pos _ (by decide)⟩)
      · intro ⟨lk, tl⟩ u3 h3 tk3 _ hlk F N
        dsimp only at hlk F N ⊢
        obtain ⟨hlk1, hlk2⟩ := hlk
        have hxl := strs_len hs2
        have hxn : xv.length ≤ 50000 := by have := hP2.len; omega
        have hoff : OwnOff own [q] := hoff
        have hm1 := Int.fmod_nonneg_of_pos pl (b := 7) (by decide)
        have hm2 := Int.fmod_lt_of_pos pl (b := 7) (by decide)
        have hm3 := Int.fmod_nonneg_of_pos lk (b := 26) (by decide)
        have hm4 := Int.fmod_lt_of_pos lk (b := 26) (by decide)
        have hm5 := Int.fmod_nonneg_of_pos lk (b := 9) (by decide)
        have hm6 := Int.fmod_lt_of_pos lk (b := 9) (by decide)
        obtain ⟨c1, e1, g1, lc1⟩ := let_slice (a := pl.fmod 7) (b := 15 + lk.fmod 26) hm1 hm2 (by omega) (by omega)
        obtain ⟨c2, e2, g2, lc2⟩ := let_slice (a := pl.fmod 7) (b := 1 + lk.fmod 9) hm1 hm2 (by omega) (by omega)
        walk_at "mine go"
        all_goals ((rename News _ _ _ _ => nE); (try simp only [List.push_toArray] at nE))
        · refine haltP_out (kst_end ⟨xv ++ [.str (Txt.slice LET (some (pl.fmod 7)) (some (pl.fmod 7 + (15 + lk.fmod 26)))) _], _, xs + (15 + lk.fmod 26 + 1), _, ys ++ [c1]⟩ (by assumption) nE (fun _ hp => by rcases List.mem_singleton.mp hp with rfl; exact .head _) (fun _ hp => .tail _ hp) rfl (strs_snoc hs2 e1) (by kst_all) (by walk_at "mine same1") ⟨?_, fun _ e => by simp at e⟩)
          exact hP2.step g1 lc1 (by omega) (by simp)
        · refine haltP_out (kst_end ⟨xv ++ [.str (Txt.slice LET (some (pl.fmod 7)) (some (pl.fmod 7 + (1 + lk.fmod 9)))) _], _, xs + (1 + lk.fmod 9 + 1), _, ys ++ [c2]⟩ (by assumption) nE (fun _ hp => by rcases List.mem_singleton.mp hp with rfl; exact .head _) (fun _ hp => .tail _ hp) rfl (strs_snoc hs2 e2) (by kst_all) (by walk_at "mine same1") ⟨?_, fun _ e => by simp at e⟩)
          exact hP2.step g2 lc2 (by omega) (by simp)
    · intro ⟨xv, xn, xs, xt, ys⟩ u2 h2 tk2 hs2 hP2 F N
      dsimp only at hs2 hP2 F N ⊢
      obtain ⟨hP2, hne⟩ := hP2
      walk_at "mine go"
      (rename News _ _ _ _ => nE)
      rw [rangeKs_length] at hP2 hne
      refine haltP_out (ksw_end ⟨xv, xn, xs, _, pl + 1, _, ys⟩ (by assumption) nE (fun _ hp => hp) hs2 (by kst_all) (by walk_at "mine same") ?_ ?_)
      · exact hP2.up (hne (by decide)) hgo.2
      · show (63 - (pl + 1)).toNat < (63 - pl).toNat
        omega
  · walk_at "mine go"
    all_goals (
      walk_at "mine back"
      exact ⟨q, wv, wn, ws, rfl, .head _, hs, fun x hx => (hP.good x hx).1, fun e => by have := hP.none e; omega, hP.ends⟩)
end
end
-- Plain2
/-- pieces of a line of n signs, what stood ahead, what is left -/
inductive Eat (w n : Nat) : List (List Nat) → List (List Nat) → List (List Nat) → Prop
  | nil {r} : Eat w n [] r r
  | whole {x : List Nat} {ps r r' : List (List Nat)} : Eat w n ps r r' → Eat w n (x :: ps) (x :: r) r'
  | cut {x : List Nat} {k : Nat} {r : List (List Nat)} : 0 < k → k < x.length → w < x.length → n = w → Eat w n [x.take k] (x :: r) (x.drop k :: r)
def tailJ : List (List Nat) → List Nat
  | [] => []
  | p :: r => 32 :: p ++ tailJ r
theorem joinW_tail (p : List Nat) : ∀ r : List (List Nat), joinW (p :: r) = p ++ tailJ r
  | [] => (List.append_nil p).symm
  | q :: r => by
    show p ++ 32 :: joinW (q :: r) = p ++ (32 :: q ++ tailJ r)
    rw [joinW_tail q r]; rfl
structure LineOk (w : Nat) (rem : List (List Nat)) (line : List Nat) (rem' ps : List (List Nat)) : Prop where
  lin : line = joinW ps
  ne : ps ≠ []
  good : ∀ p ∈ ps, Good p
  eat : Eat w line.length ps rem rem'
  le : line.length ≤ w
  more : ∀ y r', rem' = y :: r' → w < line.length + 1 + y.length ∧ (w < y.length → w ≤ line.length + 1)
theorem go_ok (w : Nat) : ∀ (r : List (List Nat)) (n : Nat), (∀ x ∈ r, Good x) → n ≤ w →
    ∃ ps, (go w n r).1 = tailJ ps ∧ (∀ p ∈ ps, Good p) ∧ Eat w (n + (go w n r).1.length) ps r (go w n r).2 ∧ n + (go w n r).1.length ≤ w ∧
      ∀ y r', (go w n r).2 = y :: r' → w < n + (go w n r).1.length + 1 + y.length ∧ (w < y.length → w ≤ n + (go w n r).1.length + 1)
  | [], n, _, hn => ⟨[], rfl, nofun, .nil, hn, fun _ _ e => (nomatch e)⟩
  | x :: r, n, hg, hn => by
    have gx := hg x (.head _)
    by_cases h1 : n + 1 + x.length ≤ w
    · have e : go w n (x :: r) = (32 :: x ++ (go w (n + 1 + x.length) r).1, (go w (n + 1 + x.length) r).2) := by rw [go, if_pos h1]
      obtain ⟨ps, i1, i2, i3, i4, i5⟩ := go_ok w r (n + 1 + x.length) (fun y hy => hg y (.tail _ hy)) h1
      have el : n + (32 :: x ++ (go w (n + 1 + x.length) r).1).length = n + 1 + x.length + (go w (n + 1 + x.length) r).1.length := by
        rw [List.length_append, List.length_cons]; omega
      rw [e]
      refine ⟨x :: ps, by show 32 :: x ++ _ = 32 :: x ++ tailJ ps; rw [i1], ?_, ?_, ?_, ?_⟩
      · intro p hp
        rcases List.mem_cons.mp hp with rfl | hp
        · exact gx
        · exact i2 p hp
      · rw [el]; exact .whole i3
      · rw [el]; exact i4
      · rw [el]; exact i5
    · by_cases h2 : w < x.length ∧ n + 1 < w
      · have e : go w n (x :: r) = (32 :: x.take (w - (n + 1)), x.drop (w - (n + 1)) :: r) := by rw [go, if_neg h1, if_pos h2]
        have el : n + (32 :: x.take (w - (n + 1))).length = w := by rw [List.length_cons, List.length_take]; omega
        rw [e]
        refine ⟨[x.take (w - (n + 1))], by show _ = 32 :: x.take (w - (n + 1)) ++ []; rw [List.append_nil], ?_, ?_, ?_, ?_⟩
        · intro p hp
          rw [List.mem_singleton.mp hp]
          exact good_take gx (by omega)
        · rw [el]; exact .cut (by omega) (by omega) h2.1 rfl
        · rw [el]; exact Nat.le_refl _
        · intro y r' _
          rw [el]
          exact ⟨by omega, fun _ => by omega⟩
      · have e : go w n (x :: r) = ([], x :: r) := by rw [go, if_neg h1, if_neg h2]
        rw [e]
        refine ⟨[], rfl, nofun, .nil, hn, fun y r' e => ?_⟩
        injection e with e _
        subst e
        refine ⟨?_, fun h => ?_⟩
        · show w < n + 0 + 1 + x.length; omega
        · show w ≤ n + 0 + 1; omega
theorem line_ok {w : Nat} (hw : 1 ≤ w) {x : List Nat} {r : List (List Nat)} (hg : ∀ y ∈ x :: r, Good y) : ∃ ps, LineOk w (x :: r) (lineF w (x :: r)).1 (lineF w (x :: r)).2 ps := by
  have gx := hg x (.head _)
  by_cases hx : x.length ≤ w
  · have e : lineF w (x :: r) = (x ++ (go w x.length r).1, (go w x.length r).2) := by
      show (if x.length ≤ w then _ else _) = _; rw [if_pos hx]
    obtain ⟨ps, i1, i2, i3, i4, i5⟩ := go_ok w r x.length (fun y hy => hg y (.tail _ hy)) hx
    rw [e]
    have el : (x ++ (go w x.length r).1).length = x.length + (go w x.length r).1.length := List.length_append
    refine ⟨x :: ps, ?_, by simp, ?_, ?_, ?_, ?_⟩
    · show x ++ _ = _; rw [joinW_tail, i1]
    · intro p hp
      rcases List.mem_cons.mp hp with rfl | hp
      · exact gx
      · exact i2 p hp
    · show Eat w (x ++ (go w x.length r).1).length _ _ _
      rw [el]; exact .whole i3
    · show (x ++ (go w x.length r).1).length ≤ w
      rw [el]; exact i4
    · intro y r' e
      have := i5 y r' e
      show w < (x ++ (go w x.length r).1).length + 1 + y.length ∧ (w < y.length → w ≤ (x ++ (go w x.length r).1).length + 1)
      rw [el]; exact this
  · have e : lineF w (x :: r) = (x.take w, x.drop w :: r) := by
      show (if x.length ≤ w then _ else _) = _; rw [if_neg hx]
    have el : (x.take w).length = w := by rw [List.length_take]; omega
    rw [e]
    refine ⟨[x.take w], rfl, by simp, ?_, ?_, ?_, ?_⟩
    · intro p hp
      rw [List.mem_singleton.mp hp]
      exact good_take gx (by omega)
    · exact .cut (by omega) (by omega) (by omega) el
    · exact Nat.le_of_eq el
    · intro y r' _
      show w < (x.take w).length + 1 + y.length ∧ (w < y.length → w ≤ (x.take w).length + 1)
      rw [el]
      exact ⟨by omega, fun _ => by omega⟩
/- the line's signs -/
theorem joinW_first {p : List Nat} {r : List (List Nat)} (h : Good p) : 97 ≤ (joinW (p :: r)).getD 0 0 := by
  rw [joinW_tail]
  obtain ⟨x, p', rfl⟩ := List.exists_cons_of_ne_nil h.1
  exact (h.2 x (.head _)).1
theorem joinW_pos {p : List Nat} {r : List (List Nat)} (h : Good p) : 0 < (joinW (p :: r)).length := by
  rw [joinW_tail, List.length_append]
  have := good_pos h
  omega
theorem joinW_last : ∀ {ps : List (List Nat)}, ps ≠ [] → (∀ p ∈ ps, Good p) → 97 ≤ (joinW ps).getD ((joinW ps).length - 1) 0
  | [], h, _ => absurd rfl h
  | [p], _, hg => by
    have gp := hg p (.head _)
    show 97 ≤ p.getD (p.length - 1) 0
    exact (good_at gp (by have := good_pos gp; omega)).1
  | p :: q :: r, _, hg => by
    have ih := joinW_last (ps := q :: r) (by simp) fun x hx => hg x (.tail _ hx)
    have hp := joinW_pos (r := r) (hg q (.tail _ (.head _)))
    show 97 ≤ (p ++ 32 :: joinW (q :: r)).getD ((p ++ 32 :: joinW (q :: r)).length - 1) 0
    rw [List.length_append, List.length_cons]
    have e : p.length + ((joinW (q :: r)).length + 1) - 1 = p.length + (((joinW (q :: r)).length - 1) + 1) := by omega
    rw [e, List.getD_eq_getElem?_getD, List.getElem?_append_right (by omega), Nat.add_sub_cancel_left, List.getElem?_cons_succ, ← List.getD_eq_getElem?_getD]
    exact ih
theorem stripB_line {ps : List (List Nat)} (hne : ps ≠ []) (hg : ∀ p ∈ ps, Good p) : Txt.stripChars (S (joinW ps)) (PySem.Str.ofString " ") = S (joinW ps) := by
  have hlast := joinW_last hne hg
  obtain ⟨p, r, rfl⟩ := List.exists_cons_of_ne_nil hne
  have gp := hg p (.head _)
  have hfirst := joinW_first (r := r) gp
  have hpos := joinW_pos (r := r) gp
  generalize joinW (p :: r) = t at *
  unfold Txt.stripChars
  rw [PyProof.Rows.stripBy_eq, str_blankS]
  have hno : ∀ c, 97 ≤ c → (S [32]).cps.contains c = false := fun c hc => by
    have : c ≠ 32 := by omega
    simp [S, this]
  have hlo := lo_facts (S [32]).cps.contains (S t)
  have h0 : PySem.stripLo (S [32]).cps.contains true (S t) = 0 := by
    apply Nat.eq_zero_of_not_pos
    intro hp
    have := hlo.2.1 0 hp
    rw [S_getD, hno _ hfirst] at this
    cases this
  rw [h0]
  have hhi := hi_facts (S [32]).cps.contains (S t) 0 (Nat.zero_le _)
  have h1 : PySem.stripHi (S [32]).cps.contains true (S t) 0 = (S t).length := by
    refine Nat.le_antisymm hhi.2.1 (Nat.le_of_not_lt fun hlt => ?_)
    rw [S_length] at hlt
    have := hhi.2.2.1 (t.length - 1) (by omega) (by rw [S_length]; omega)
    rw [S_getD, hno _ hlast] at this
    cases this
  rw [h1]
  exact strSub_whole _
/- split, one way alone -/
theorem cut_first {a b x y : List Nat} (ha : 32 ∉ a) (hb : 32 ∉ b) (h : a ++ 32 :: x = b ++ 32 :: y) : a = b ∧ x = y := by
  induction a generalizing b with
  | nil =>
    cases b with
    | nil => injection h with _ h; exact ⟨rfl, h⟩
    | cons c b => injection h with h _; exact absurd (h ▸ .head _) hb
  | cons c a ih =>
    cases b with
    | nil => injection h with h _; exact absurd (h ▸ .head _) ha
    | cons d b =>
      injection h with h1 h2
      obtain ⟨h3, h4⟩ := ih (fun q => ha (.tail _ q)) (fun q => hb (.tail _ q)) h2
      exact ⟨by rw [h1, h3], h4⟩
theorem joinW_inj : ∀ {a b : List (List Nat)}, a ≠ [] → b ≠ [] → (∀ p ∈ a, 32 ∉ p) → (∀ p ∈ b, 32 ∉ p) → joinW a = joinW b → a = b
  | [], _, h, _, _, _, _ => absurd rfl h
  | _ :: _, [], _, h, _, _, _ => absurd rfl h
  | [p], [q], _, _, _, _, h => by
    have : p = q := h
    rw [this]
  | [p], q :: q' :: r, _, _, ha, _, h => by
    have h : p = q ++ 32 :: joinW (q' :: r) := h
    exact absurd (by rw [h]; simp) (ha p (.head _))
  | p :: p' :: r, [q], _, _, _, hb, h => by
    have h : p ++ 32 :: joinW (p' :: r) = q := h
    exact absurd (by rw [← h]; simp) (hb q (.head _))
  | p :: p' :: r, q :: q' :: r', _, _, ha, hb, h => by
    obtain ⟨h1, h2⟩ := cut_first (ha p (.head _)) (hb q (.head _)) h
    have := joinW_inj (a := p' :: r) (b := q' :: r') (by simp) (by simp) (fun x hx => ha x (.tail _ hx)) (fun x hx => hb x (.tail _ hx)) h2
    rw [h1, this]
theorem S_toList (x : PySem.Str) : S x.cps.toList = x := PySem.Str.ext' (by simp [S])
theorem split_line {ps : List (List Nat)} (hne : ps ≠ []) (hg : ∀ p ∈ ps, Good p) : Txt.split (S (joinW ps)) (PySem.Str.ofString " ") = ps.map S := by
  rw [str_blankS]
  have h1 := StrLaws.join_split (S (joinW ps)) (S [32])
  have h2 := StrLaws.split_free (S (joinW ps)) 32
  have h2 : ∀ p ∈ Txt.split (S (joinW ps)) (S [32]), 32 ∉ p.cps.toList := h2
  generalize Txt.split (S (joinW ps)) (S [32]) = parts at h1 h2
  have e : parts = (parts.map fun p => p.cps.toList).map S := by
    rw [List.map_map]
    exact ((List.map_congr_left fun p _ => S_toList p).trans (List.map_id _)).symm
  rw [e, sjoin_blank] at h1
  have h3 := S_inj h1
  have hpne : parts.map (fun p => p.cps.toList) ≠ [] := by
    intro q
    rw [q] at h3
    obtain ⟨p, r, rfl⟩ := List.exists_cons_of_ne_nil hne
    have := joinW_pos (r := r) (hg p (.head _))
    rw [← h3] at this
    exact absurd this (Nat.lt_irrefl 0)
  have := joinW_inj hpne hne (fun p hp => by
    obtain ⟨q, hq, rfl⟩ := List.mem_map.mp hp
    exact h2 q hq) (fun p hp q => by have := (hg p hp).2 32 q; omega) h3
  rw [e, this]
/-- where the law stands: at word a, rs of it left, rem all that is left -/
def Pos (ws : List (List Nat)) (a : Nat) (rs : List Nat) (rem : List (List Nat)) : Prop :=
  (rem = [] ∧ a = ws.length ∧ rs = []) ∨ ∃ x k, ws[a]? = some x ∧ rem = rs :: ws.drop (a + 1) ∧ Good rs ∧ rs = x.drop k
theorem pos_word {ws : List (List Nat)} (hg : ∀ x ∈ ws, Good x) {a : Nat} {x : List Nat} (h : ws[a]? = some x) : Pos ws a x (ws.drop a) := by
  obtain ⟨hlt, rfl⟩ := List.getElem?_eq_some_iff.mp h
  exact .inr ⟨_, 0, h, List.drop_eq_getElem_cons hlt, hg _ (List.getElem_mem hlt), rfl⟩
theorem pos_end {ws : List (List Nat)} {a : Nat} (h : a = ws.length) : Pos ws a [] (ws.drop a) := .inl ⟨List.drop_eq_nil_of_le (by omega), h, rfl⟩
theorem Pos.le {ws : List (List Nat)} {a : Nat} {rs : List Nat} {rem : List (List Nat)} (h : Pos ws a rs rem) : a ≤ ws.length := by
  rcases h with ⟨_, h, _⟩ | ⟨x, k, h, _⟩
  · omega
  · obtain ⟨hlt, _⟩ := List.getElem?_eq_some_iff.mp h; omega
theorem eat_turn {ws : List (List Nat)} {w n a : Nat} {rs p : List Nat} {ps rem rem' : List (List Nat)} (hg : ∀ x ∈ ws, Good x) (h : Eat w n (p :: ps) rem rem') (hp : Pos ws a rs rem) :
    ∃ x, ws[a]? = some x ∧ a < ws.length ∧ rs.length ≤ x.length ∧ Good rs ∧
      ((p = rs ∧ a + 1 < ws.length ∧ ∃ y, ws[a + 1]? = some y ∧ ∃ r2, Pos ws (a + 1) y r2 ∧ Eat w n ps r2 rem') ∨
       (p = rs ∧ a + 1 = ws.length ∧ ∃ r2, Pos ws (a + 1) [] r2 ∧ Eat w n ps r2 rem') ∨
       (ps = [] ∧ ∃ k, 0 < k ∧ k < rs.length ∧ p = rs.take k ∧ w < rs.length ∧ n = w ∧ Pos ws a (rs.drop k) rem')) := by
  rcases hp with ⟨hr, _, _⟩ | ⟨x, k, hx, hr, gr, hk⟩
  · subst hr; cases h
  · obtain ⟨hlt, hxe⟩ := List.getElem?_eq_some_iff.mp hx
    refine ⟨x, hx, hlt, by rw [hk, List.length_drop]; omega, gr, ?_⟩
    subst hr
    cases h with
    | whole h =>
      by_cases h1 : a + 1 < ws.length
      · have hy : ws[a + 1]? = some ws[a + 1] := List.getElem?_eq_getElem h1
        exact .inl ⟨rfl, h1, _, hy, _, pos_word hg hy, h⟩
      · have h2 : a + 1 = ws.length := by omega
        exact .inr (.inl ⟨rfl, h2, _, pos_end h2, h⟩)
    | cut k0 k1 k2 k3 =>
      rename_i kk
      refine .inr (.inr ⟨rfl, _, k0, k1, rfl, k2, k3, .inr ⟨x, k + kk, hx, rfl, good_drop gr k1, ?_⟩⟩)
      rw [hk, List.drop_drop]
theorem starts_S {r p : List Nat} (h : r.take p.length = p) (hl : p.length ≤ r.length) : Txt.startswith (S r) (S p) = true := by
  unfold Txt.startswith
  rw [StrLaws.subAt_eq, S_length, S_length]
  simp [S, h, hl]
def FitI (w : Nat) (ws ls : List (List Nat)) (a : Nat) (rs : List Nat) : Prop := ∃ rem, Wraps w rem ls ∧ (∀ x ∈ rem, Good x) ∧ Pos ws a rs rem
theorem fit_turn {w : Nat} (hw : 1 ≤ w) {ws ls : List (List Nat)} {a : Nat} {rs line : List Nat} (h : FitI w ws (line :: ls) a rs) :
    ∃ rem rem' ps, LineOk w rem line rem' ps ∧ Pos ws a rs rem ∧ Wraps w rem' ls ∧ ∀ x ∈ rem', Good x := by
  obtain ⟨rem, hW, hg, hp⟩ := h
  cases hW with
  | cons hW =>
    obtain ⟨ps, hok⟩ := line_ok hw hg
    exact ⟨_, _, ps, hok, hp, hW, lineF_good hg⟩
theorem fit_end {w : Nat} {ws : List (List Nat)} {a : Nat} {rs : List Nat} (h : FitI w ws [] a rs) : a = ws.length := by
  obtain ⟨rem, hW, hg, hp⟩ := h
  cases hW
  rcases hp with ⟨_, h, _⟩ | ⟨_, _, _, h, _⟩
  · exact h
  · cases h
theorem fit_start {w : Nat} {ws ls : List (List Nat)} {x : List Nat} (hg : ∀ x ∈ ws, Good x) (h : Wraps w ws ls) (hx : ws[0]? = some x) : FitI w ws ls 0 x := ⟨ws, h, hg, pos_word hg hx⟩
theorem getElem_S {ls : List (List Nat)} {i : Nat} {x : List Nat} (h : ls[i]? = some x) : (ls.map S)[i]? = some (S x) := by
  rw [List.getElem?_map, h]; rfl
theorem nonempty_S {c : List Nat} (h : 0 < c.length) : (S c == PySem.Str.ofString "") = false := by
  rw [str_noneS, beq_eq_false_iff_ne]
  intro e
  have := S_inj e
  rw [this] at h
  exact absurd h (Nat.lt_irrefl 0)
theorem inter_len : ∀ ws : List (List Nat), ws.length ≤ (inter ws).length
  | [] => Nat.le_refl _
  | [_] => Nat.le_refl _
  | w :: x :: r => by
    have ih := inter_len (x :: r)
    show (x :: r).length + 1 ≤ (inter (x :: r)).length + 1 + 1
    omega
theorem good_len {ws : List (List Nat)} (hg : ∀ x ∈ ws, Good x) : ws.length ≤ (joinW ws).length := by
  have h1 := (parts_len (rem := ws) (t := inter ws) (cs := []) hg (by simp)).1
  have h2 := inter_len ws
  rw [inter_flatten] at h1
  omega
theorem eat_nil {w n : Nat} {rem rem' : List (List Nat)} (h : Eat w n [] rem rem') : rem = rem' := by cases h; rfl
theorem mem_len : ∀ {ws : List (List Nat)} {x : List Nat}, x ∈ ws → x.length ≤ (joinW ws).length
  | [], _, h => nomatch h
  | w :: r, x, h => by
    rw [joinW_tail, List.length_append]
    rcases List.mem_cons.mp h with rfl | h
    · omega
    · cases r with
      | nil => cases h
      | cons y r =>
        have ih := mem_len h
        rw [joinW_tail, List.length_append] at ih
        show x.length ≤ w.length + (32 :: y ++ tailJ r).length
        rw [List.length_append, List.length_cons]; omega
theorem flat_join : ∀ ws : List (List Nat), ws.flatten.length ≤ (joinW ws).length
  | [] => Nat.le_refl _
  | [w] => by simp [joinW]
  | w :: x :: r => by
    have ih := flat_join (x :: r)
    show (w ++ (x :: r).flatten).length ≤ (w ++ 32 :: joinW (x :: r)).length
    rw [List.length_append, List.length_append, List.length_cons]; omega
theorem join_room {ws : List (List Nat)} (hg : ∀ x ∈ ws, Good x) (hz : (joinW ws).length ≤ 50000) : ws.flatten.length + ws.length ≤ 1048576 := by
  have h1 := good_len hg
  have h2 := flat_join ws
  omega
theorem width_of (z : Int) : ∃ W : Nat, 1 + (z.fdiv 2).fmod 60 = (W : Int) ∧ 1 ≤ W ∧ W ≤ 60 := by
  have h1 := Int.fmod_nonneg_of_pos (z.fdiv 2) (b := 60) (by decide)
  have h2 := Int.fmod_lt_of_pos (z.fdiv 2) (b := 60) (by decide)
  exact ⟨(1 + (z.fdiv 2).fmod 60).toNat, by omega, by omega, by omega⟩
theorem raw_facts (z : Int) : (0 ≤ z.fmod 6 ∧ z.fmod 6 < 6) ∧ (0 ≤ z.fmod 119 ∧ z.fmod 119 < 119) ∧ (0 ≤ (z.fdiv 2).fmod 60 ∧ (z.fdiv 2).fmod 60 < 60) :=
  ⟨⟨Int.fmod_nonneg_of_pos _ (by decide), Int.fmod_lt_of_pos _ (by decide)⟩, ⟨Int.fmod_nonneg_of_pos _ (by decide), Int.fmod_lt_of_pos _ (by decide)⟩, ⟨Int.fmod_nonneg_of_pos _ (by decide), Int.fmod_lt_of_pos _ (by decide)⟩⟩
-- D6
section
theorem item_S {prog : Program} {w : World} {A : Around} {E : Value → Shared → Prop} {s : Shared} {value slice : PySem.Expr} {D : Addr} {vs : List Value} {ls : List (List Nat)} {x : List Nat} {k : Int} {u : Tok} {Q : Value → Shared → Prop}
    (hl : s.heap.IsList D vs.toArray) (hs : StrsAre vs (ls.map S)) (h0 : 0 ≤ k) (hk : k < 2 ^ 63) (hx : ls[k.toNat]? = some x) (h : ∀ t, Q (.str (S x) t) s)
    (hs' : subscripted slice false (.ref D) (.int k u) = operate [.ref D, .int k u] (getItem (.ref D) (.int k u)) := by with_unfolding_all rfl) (hg : ∀ r, letTemporaryGo value (.ref D) r = pure () := by intro _; with_unfolding_all rfl) :
    wpAny (model prog w) A (subscriptTail value slice (.ref D) (.int k u)) Q E s := by
  obtain ⟨t, ht⟩ := hs.at (getElem_S hx)
  exact item_listL hl h0 hk ht (h t) hs' hg
theorem len_S {prog : Program} {w : World} {A : Around} {E : Value → Shared → Prop} {s : Shared} {D : Addr} {vs : List Value} {ls : List (List Nat)} {Q : Value → Shared → Prop}
    (hl : s.heap.IsList D vs.toArray) (hs : StrsAre vs (ls.map S)) (hz : ls.length ≤ 1000000) (h : ∀ t k, Q (.int (ls.length : Nat) t) { s with toks := k }) : wpAny (model prog w) A (call (.builtin "len") [.ref D]) Q E s := by
  refine len_strsA hl hs (by rw [List.length_map]; omega) ?_
  rw [List.length_map]
  exact h _ _
section
local macro_rules | `(tactic| walk_at "call builtin:len") => `(tactic| (k_here; (with_reducible show wpAny _ _ (call (Value.builtin "len") [Value.ref _]) _ _ _); k_dflt (refine' len_S ?l ?s ?z ?_; (case l => first | exact Fr.lst (by assumption) (by assumption) | exact News.isList (by k_asm) (by k_mem)); (case s => assumption); (case z => omega); k_whole); intro t' k'))
local macro_rules | `(tactic| walk_at "subscriptTail Name Constant ref int") => `(tactic| (k_here; k_dflt (refine' item_S ?l ?s ?a ?b ?x ?_ ?c ?d; (case l => first | exact Fr.lst (by assumption) (by assumption) | exact News.isList (by k_asm) (by k_mem)); (case s => assumption); (case a => omega); (case b => (show _ < (9223372036854775808 : Int); omega)); (case x => assumption); (case c => with_unfolding_all rfl); (case d => intro _; with_unfolding_all rfl); k_whole); intro t'))
local macro_rules | `(tactic| walk_at "subscriptTail Name Name ref int") => `(tactic| (k_here; k_dflt (refine' item_S ?l ?s ?a ?b ?x ?_ ?c ?d; (case l => first | exact Fr.lst (by assumption) (by assumption) | exact News.isList (by k_asm) (by k_mem)); (case s => assumption); (case a => omega); (case b => (show _ < (9223372036854775808 : Int); omega)); (case x => assumption); (case c => with_unfolding_all rfl); (case d => intro _; with_unfolding_all rfl); k_whole); intro t'))
theorem fits_use {w : World} {A A₀ : Around} {base h₀ : Heap} {env : Env} {outer : List Env} {L : Addr} {m mg mb : Str → Option Value} {mean : ExcName → Option Value} {news : List (Addr × Obj)} {s : Shared} {E Q : Value → Shared → Prop}
    {wv lv : List Value} {ws lns : List (List Nat)} {a1 a2 : Addr} {W : Nat} {t2 : Tok}
    (B : Below A₀ base outer h₀) (F : Fr h₀ L s.heap m) (X : (hd.heap_39 w.params).In h₀) (N : News h₀ L s.heap news) (Tt : Tp mean mg mb h₀)
    (q1 : A.handled = none) (q2 : A.frames = some (env :: outer)) (q3 : A.guards = some []) (q4 : A.depth ≤ 390) (q5 : A.units ≤ 900) (hf : env.frame = some L) (hke : env.scope.kind = .function)
    (hl1 : s.heap.IsList a1 wv.toArray) (hl2 : s.heap.IsList a2 lv.toArray) (hs1 : StrsAre wv (ws.map S)) (hs2 : StrsAre lv (lns.map S))
    (hg : ∀ x ∈ ws, Good x) (hne : ws ≠ []) (hsz : (joinW ws).length ≤ 50000) (hwr : Wraps W ws lns ∧ lns.length ≤ 50000) (hW1 : 1 ≤ W) (hW2 : W ≤ 60)
    (ret : ∀ h' tk', Fr h₀ L h' m → News h₀ L h' news → Q (.bool true) { s with heap := h', toks := tk' }) :
    wpAny (model PR w) A (call (.ref 84) [.ref a1, .ref a2, .int W t2]) Q E s := by
  refine weaken (d := 390) (u := 900) q1 q2 q3 q4 q5 ?_
  obtain ⟨hwr, hll⟩ := hwr
  have hwl := strs_len hs1
  have hlv := strs_len hs2
  have hwsl : ws.length ≤ 50000 := by have := good_len hg; omega
  obtain ⟨x0, hx0⟩ : ∃ x, ws[((0 : Int)).toNat]? = some x := by
    obtain ⟨x, r, rfl⟩ := List.exists_cons_of_ne_nil hne
    exact ⟨x, rfl⟩
  have hfit := fit_start hg hwr hx0
  walk_at "prime"
  let Out : Value → List (Addr × Obj) → Prop := fun v nx => v = .bool true
  walk_at "f_enter"
  case ret =>
    intro v h' tk' news' F' N' hn hst ho
    have e : v = .bool true := ho
    subst e
    exact ret _ _ F' fun p hp => N' p (List.mem_append_right _ hp)
  intro h₁ F' N' B' X' T'
  clear B F X N Tt q1 q2 q3 q4 q5 hf hke ret
  walk_at "mine go"
  refine halt_out ?_
  (rename Fr _ _ _ _ => F)
  (rename News _ _ _ _ => N)
  refine kst_range (σ := Nat × Tok × List Nat × Tok) (n := lns.length) (fun _ => []) (fun c => [(PySem.Str.ofString "at", .int ((c.1 : Nat) : Int) c.2.1), (PySem.Str.ofString "rest", .str (S c.2.2.1) c.2.2.2)]) (fun _ => True) [PySem.Str.ofString "line", PySem.Str.ofString "pieces", PySem.Str.ofString "turn", PySem.Str.ofString "piece"]
    (fun pre c => FitI W ws (lns.drop pre.length) c.1 c.2.2.1) (0, _, x0, _) rfl (by assumption) (small_one (by omega) (by omega) (by omega) (by omega)) (by rw [rangeSize_nat]; omega) F N trivial (by kst_all) (by exact hfit) ?_ ?_
  · intro ⟨a, ta, rs, tr⟩ pre k t u2 h2 tk2 own hk hlt hoff _ hP F N
    dsimp only at hP F N ⊢
    have hoff : OwnOff own [] := hoff
    obtain ⟨line, hline⟩ : ∃ x, lns[k.toNat]? = some x := ⟨_, List.getElem?_eq_getElem (by omega)⟩
    have hdrop : lns.drop pre.length = line :: lns.drop (pre.length + 1) := by
      have e : k.toNat = pre.length := by omega
      rw [e] at hline
      obtain ⟨hh, rfl⟩ := List.getElem?_eq_some_iff.mp hline
      exact List.drop_eq_getElem_cons hh
    rw [hdrop] at hP
    obtain ⟨rem, rem', ps, hok, hpos, hwr', hg'⟩ := fit_turn hW1 hP
    have hlinep : 0 < line.length := by
      rw [hok.lin]
      obtain ⟨p, r, e⟩ := List.exists_cons_of_ne_nil hok.ne
      have hgo := hok.good
      rw [e] at hgo ⊢
      exact joinW_pos (hgo p (.head _))
    have hSl := S_length line
    have hle := hok.le
    have e1 := nonempty_S hlinep
    have e2 : (S line != Txt.stripChars (S line) (PySem.Str.ofString " ")) = false := bne_f (by rw [hok.lin, stripB_line hok.ne hok.good]; exact beq_self_eq_true _)
    have e3 : Txt.split (S line) (PySem.Str.ofString " ") = ps.map S := by rw [hok.lin, split_line hok.ne hok.good]
    walk_at "mine go"
    refine halt_out ?_
    (rename Fr _ _ _ _ => F)
    (rename News _ _ _ _ => N)
    (rename StrsAre (strValues _) _ => hsp)
    (rename (List.map _ _ = Txt.split _ _) => hlk)
    have hlen := congrArg List.length (hlk.trans e3)
    rw [List.length_map, List.length_map] at hlen
    rw [hlk, e3] at hsp
    have hpsl : ps.length ≤ 60 := by have := good_len hok.good; rw [← hok.lin] at this; omega
    refine kst_range (σ := Nat × Tok × List Nat × Tok) (n := ps.length) (fun _ => _) (fun c => [(PySem.Str.ofString "at", .int ((c.1 : Nat) : Int) c.2.1), (PySem.Str.ofString "rest", .str (S c.2.2.1) c.2.2.2)]) (fun _ => True) [PySem.Str.ofString "piece"]
      (fun pre2 c => ∃ rem1, Eat W line.length (ps.drop pre2.length) rem1 rem' ∧ Pos ws c.1 c.2.2.1 rem1) (a, _, rs, _) rfl (by assumption) (small_one (by omega) (by omega) (by omega) (by omega)) (by rw [rangeSize_nat]; omega) F N trivial (by kst_all) (by exact ⟨rem, hok.eat, hpos⟩) ?_ ?_
    · intro ⟨b, tb, rs2, tr2⟩ pre2 k2 t3 u3 h3 tk3 own2 hk2 hlt2 hoff2 _ hP2 F N
      dsimp only at hP2 F N ⊢
      obtain ⟨rem1, heat, hpos1⟩ := hP2
      obtain ⟨p, hp⟩ : ∃ x, ps[k2.toNat]? = some x := ⟨_, List.getElem?_eq_getElem (by omega)⟩
      have hdrop2 : ps.drop pre2.length = p :: ps.drop (pre2.length + 1) := by
        have e : k2.toNat = pre2.length := by omega
        rw [e] at hp
        obtain ⟨hh, rfl⟩ := List.getElem?_eq_some_iff.mp hp
        exact List.drop_eq_getElem_cons hh
      rw [hdrop2] at heat
      obtain ⟨x, hx, hbl, hrsl, grs, hcase⟩ := eat_turn hg heat hpos1
      have gp := hok.good p (List.mem_of_getElem? hp)
      have e4 := nonempty_S (good_pos gp)
      have hSp := S_length p
      have hSr := S_length rs2
      have hpl : p.length ≤ 60 := by have := mem_len (List.mem_of_getElem? hp); rw [← hok.lin] at this; omega
      have hxl : x.length ≤ 50000 := by have := mem_len (List.mem_of_getElem? hx); omega
      have eS : Txt.slice (S rs2) (some ((S p).length : Int)) none = S (rs2.drop p.length) := by
        rw [slice_fromS (by omega)]
        congr 2
      rcases hcase with ⟨rfl, hb1, y, hy, r2, hpos2, heat2⟩ | ⟨rfl, hb1, r2, hpos2, heat2⟩ | ⟨hps, kk, hk0, hk1, rfl, hk3, hk4, hpos2⟩
      · have e5 : Txt.startswith (S p) (S p) = true := starts_S (by rw [List.take_length]) (Nat.le_refl _)
        have e6 : (Txt.slice (S p) (some ((S p).length : Int)) none == PySem.Str.ofString "") = true := by
          rw [eS, List.drop_length, str_noneS]; exact beq_self_eq_true _
        have hy : ws[((b : Int) + 1).toNat]? = some y := hy
        walk_at "mine go"
        (rename News _ _ _ _ => nE)
        exact haltP_out (kst_end ⟨b + 1, _, y, _⟩ (by assumption) nE (fun _ hp => List.mem_append_left _ hp) (fun _ hp => List.mem_append_right _ hp) rfl trivial (by kst_all) (by walk_at "mine same1") ⟨r2, by rw [List.length_append]; exact heat2, hpos2⟩)
      · have e5 : Txt.startswith (S p) (S p) = true := starts_S (by rw [List.take_length]) (Nat.le_refl _)
        have e6 : (Txt.slice (S p) (some ((S p).length : Int)) none == PySem.Str.ofString "") = true := by
          rw [eS, List.drop_length, str_noneS]; exact beq_self_eq_true _
        walk_at "mine go"
        (rename News _ _ _ _ => nE)
        exact haltP_out (kst_end ⟨b + 1, _, [], _⟩ (by assumption) nE (fun _ hp => List.mem_append_left _ hp) (fun _ hp => List.mem_append_right _ hp) rfl trivial (by kst_all) (by walk_at "mine same1") ⟨r2, by rw [List.length_append]; exact heat2, hpos2⟩)
      · have hkl : (rs2.take kk).length = kk := by rw [List.length_take]; omega
        have e5 : Txt.startswith (S rs2) (S (rs2.take kk)) = true := starts_S (by rw [hkl]) (by omega)
        have e6 : (Txt.slice (S rs2) (some ((S (rs2.take kk)).length : Int)) none == PySem.Str.ofString "") = false := by
          rw [eS]; exact nonempty_S (by rw [List.length_drop]; omega)
        have hx' : ws[((b : Nat) : Int).toNat]? = some x := hx
        have hSx := S_length x
        have hps1 := List.drop_eq_nil_iff.mp hps
        walk_at "mine go"
        · exfalso; omega
        (rename Fr _ _ _ _ => F)
        (rename News _ _ _ _ => nE)
        rw [eS, hkl] at F
        refine haltP_out (kst_end ⟨b, _, rs2.drop kk, _⟩ F nE (fun _ hp => List.mem_append_left _ hp) (fun _ hp => List.mem_append_right _ hp) rfl trivial (by kst_all) (by walk_at "mine same1") ⟨rem', ?_, hpos2⟩)
        rw [List.length_append, List.length_cons, List.length_nil, hps]
        exact .nil
    · intro ⟨b, tb, rs2, tr2⟩ u3 h3 tk3 _ hP2 F N
      dsimp only at hP2 F N ⊢
      obtain ⟨rem1, heat, hpos1⟩ := hP2
      rw [rangeKs_length, List.drop_length] at heat
      have := eat_nil heat
      subst this
      have hpos2 := hpos1
      have hSr := S_length rs2
      have hnext : FitI W ws (lns.drop (pre ++ [k]).length) b rs2 := ⟨rem1, by rw [List.length_append]; exact hwr', hg', hpos2⟩
      rcases hpos1 with ⟨hr0, ha0, hrs0⟩ | ⟨x, kk, hx, hr0, grs, hrk⟩
      · walk_at "mine go"
        all_goals (
          (rename News _ _ _ _ => nE)
          exact haltP_out (kst_end ⟨b, _, rs2, _⟩ (by assumption) nE (fun _ hp => nomatch hp) (fun _ hp => .tail _ hp) rfl trivial (by kst_all) (by walk_at "mine same1") hnext))
      · have hbl : b < ws.length := (List.getElem?_eq_some_iff.mp hx).1
        have hx' : ws[((b : Nat) : Int).toNat]? = some x := hx
        have hmore := hok.more _ _ hr0
        have hxl : x.length ≤ 50000 := by have := mem_len (List.mem_of_getElem? hx); omega
        have hrl : rs2.length ≤ x.length := by rw [hrk, List.length_drop]; omega
        walk_at "mine go"
        all_goals (
          (rename News _ _ _ _ => nE)
          exact haltP_out (kst_end ⟨b, _, rs2, _⟩ (by assumption) nE (fun _ hp => nomatch hp) (fun _ hp => .tail _ hp) rfl trivial (by kst_all) (by walk_at "mine same1") hnext))
  · intro ⟨a, ta, rs, tr⟩ u2 h2 tk2 _ hP F N
    dsimp only at hP F N ⊢
    rw [rangeKs_length, List.drop_length] at hP
    have ha := fit_end hP
    walk_at "mine go"
    walk_at "mine back"
    show Value.bool _ = Value.bool true
    rw [ha]
    simp
end
end
-- Plain3
theorem go_rep (W : Nat) {w : List Nat} (hw : w.length ≤ W) : ∀ (m n : Nat), n ≤ W → go W n (List.replicate m w) = (tailJ (List.replicate (min m ((W - n) / (w.length + 1))) w), List.replicate (m - min m ((W - n) / (w.length + 1))) w)
  | 0, n, _ => by simp [go, tailJ]
  | m + 1, n, hn => by
    rw [List.replicate_succ]
    by_cases h : n + 1 + w.length ≤ W
    · rw [go, if_pos h, go_rep W hw m (n + 1 + w.length) h]
      have e : (W - n) / (w.length + 1) = (W - (n + 1 + w.length)) / (w.length + 1) + 1 := by
        rw [show W - n = (W - (n + 1 + w.length)) + (w.length + 1) from by omega, Nat.add_div_right _ (Nat.succ_pos _)]
      rw [e]
      generalize (W - (n + 1 + w.length)) / (w.length + 1) = j
      have e2 : min (m + 1) (j + 1) = min m j + 1 := by omega
      rw [e2, List.replicate_succ, show m + 1 - (min m j + 1) = m - min m j from by omega]
      rfl
    · rw [go, if_neg h, if_neg (by omega)]
      have e : (W - n) / (w.length + 1) = 0 := Nat.div_eq_of_lt (by omega)
      rw [e, Nat.min_zero, Nat.sub_zero, List.replicate_succ]
      rfl
theorem lineF_rep {W : Nat} {w : List Nat} (hw : w.length ≤ W) (m : Nat) : lineF W (List.replicate (m + 1) w) = (joinW (List.replicate (min (m + 1) ((W + 1) / (w.length + 1))) w), List.replicate (m + 1 - min (m + 1) ((W + 1) / (w.length + 1))) w) := by
  rw [List.replicate_succ]
  show (if w.length ≤ W then _ else _) = _
  rw [if_pos hw, go_rep W hw m w.length hw]
  have e : (W + 1) / (w.length + 1) = (W - w.length) / (w.length + 1) + 1 := by
    rw [show W + 1 = (W - w.length) + (w.length + 1) from by omega, Nat.add_div_right _ (Nat.succ_pos _)]
  rw [e]
  generalize (W - w.length) / (w.length + 1) = j
  have e2 : min (m + 1) (j + 1) = min m j + 1 := by omega
  rw [e2, List.replicate_succ, joinW_tail, show m + 1 - (min m j + 1) = m - min m j from by omega]
def cnt (sh m : Nat) : Nat := if m = 0 then 0 else (m - 1) / sh + 1
def dueL (sh : Nat) (w : List Nat) (m : Nat) : List (List Nat) := (List.range (cnt sh m)).map fun i => joinW (List.replicate (min sh (m - i * sh)) w)
theorem wraps_rep {W : Nat} {w : List Nat} (hw : w.length ≤ W) {sh : Nat} (hsh : sh = (W + 1) / (w.length + 1)) (h1 : 1 ≤ sh) :
    ∀ (lns : List (List Nat)) (m : Nat), Wraps W (List.replicate m w) lns → lns = dueL sh w m := by
  intro lns
  induction lns with
  | nil =>
    intro m h
    generalize hr : List.replicate m w = rep at h
    cases h
    cases m with
    | zero => rfl
    | succ m => cases hr
  | cons l ls ih =>
    intro m h
    cases m with
    | zero => cases h
    | succ m =>
      have hl := lineF_rep hw m
      rw [← hsh] at hl
      generalize hr : List.replicate (m + 1) w = rep at h hl
      cases h with
      | cons h =>
        rw [hl] at h ⊢
        have := ih _ h
        rw [this]
        unfold dueL
        by_cases hm : m + 1 ≤ sh
        · have e1 : min (m + 1) sh = m + 1 := by omega
          have e2 : cnt sh (m + 1) = 1 := by
            unfold cnt
            rw [if_neg (by omega), show m + 1 - 1 = m from rfl, Nat.div_eq_of_lt (by omega)]
          rw [e1, e2, Nat.sub_self]
          have e3 : cnt sh 0 = 0 := rfl
          rw [e3]
          show [joinW (List.replicate (m + 1) w)] = [joinW (List.replicate (min sh (m + 1 - 0 * sh)) w)]
          rw [Nat.zero_mul, Nat.sub_zero, show min sh (m + 1) = m + 1 from by omega]
        · have e1 : min (m + 1) sh = sh := by omega
          have e2 : cnt sh (m + 1) = cnt sh (m + 1 - sh) + 1 := by
            unfold cnt
            rw [if_neg (by omega), if_neg (by omega), show m + 1 - 1 = (m + 1 - sh - 1) + sh from by omega, Nat.add_div_right _ (by omega)]
          rw [e1, e2, List.range_succ_eq_map, List.map_cons, List.map_map]
          congr 1
          · rw [Nat.zero_mul, Nat.sub_zero, show min sh (m + 1) = sh from by omega]
          · refine List.map_congr_left fun i _ => ?_
            show joinW (List.replicate (min sh (m + 1 - sh - i * sh)) w) = joinW (List.replicate (min sh (m + 1 - (i + 1) * sh)) w)
            rw [Nat.succ_mul, show m + 1 - (i * sh + sh) = m + 1 - sh - i * sh from by omega]
theorem rep_strs {x : PySem.Str} {w : List Nat} (e : x = S w) (n : Nat) (t : Tok) : StrsAre (List.replicate n (.str x t)) ((List.replicate n w).map S) := by
  subst e
  induction n with
  | zero => exact .nil
  | succ n ih => exact .cons _ _ ih
theorem rep_flat {α : Type} (v : α) (n : Nat) : (List.replicate n [v]).flatten = List.replicate n v := by
  induction n with
  | zero => rfl
  | succ n ih => rw [List.replicate_succ, List.flatten_cons, ih]; rfl
theorem rep_room {w : List Nat} {n : Nat} (hn : n ≤ 120) (hw : w.length ≤ 40) : (List.replicate n w).flatten.length + (List.replicate n w).length ≤ 1048576 := by
  have h : (List.replicate n w).flatten.length = n * w.length := by
    induction n with
    | zero => simp
    | succ n ih =>
      rw [List.replicate_succ, List.flatten_cons, List.length_append, ih (by omega), Nat.succ_mul]; omega
  have h2 : n * w.length ≤ 120 * 40 := Nat.mul_le_mul hn hw
  rw [h, List.length_replicate]; omega
theorem rep_joinW {w : List Nat} {n : Nat} (hn : n ≤ 120) (hw : w.length ≤ 40) : (joinW (List.replicate n w)).length ≤ 50000 := by
  have h1 := joinW_le (ws := List.replicate n w) (k := 40) fun x hx => by rw [List.eq_of_mem_replicate hx]; exact hw
  rw [List.length_replicate] at h1
  have h2 : n * 41 ≤ 120 * 41 := Nat.mul_le_mul_right _ hn
  omega
theorem let_dec0 : ∀ b : Fin 41, 1 ≤ b.val → ((Txt.slice LET none (some (b.val : Int))).cps.toList.all (fun c => decide (97 ≤ c) && decide (c ≤ 122)) && decide ((Txt.slice LET none (some (b.val : Int))).length = b.val)) = true := by decide +kernel
theorem let_slice0 {b : Int} (h2 : 1 ≤ b) (h3 : b ≤ 40) : ∃ c, Txt.slice LET none (some b) = S c ∧ Good c ∧ (c.length : Int) = b := by
  have h := let_dec0 ⟨b.toNat, by omega⟩ (by show 1 ≤ b.toNat; omega)
  dsimp only at h
  rw [show ((b.toNat : Nat) : Int) = b from by omega] at h
  simp only [Bool.and_eq_true, decide_eq_true_eq, List.all_eq_true] at h
  obtain ⟨h4, h5⟩ := h
  have h7 : (Txt.slice LET none (some b)).length = (Txt.slice LET none (some b)).cps.size := rfl
  refine ⟨(Txt.slice LET none (some b)).cps.toList, ?_, ⟨fun e => ?_, fun c hc => h4 c hc⟩, ?_⟩
  · exact PySem.Str.ext' (by simp [S])
  · have := congrArg List.length e
    rw [Array.length_toList, List.length_nil] at this
    omega
  · rw [Array.length_toList]; omega
theorem size_nat {z a b : Int} (h : z = min (1 + a.fmod 6) (1 + (b.fdiv 2).fmod 60)) (hb0 : b.fmod 2 = 1) : ∃ sz W : Nat, z = (sz : Int) ∧ 1 + (b.fdiv 2).fmod 60 = (W : Int) ∧ 1 ≤ W ∧ W ≤ 60 ∧ 1 ≤ sz ∧ sz ≤ 6 ∧ sz ≤ W := by
  obtain ⟨W, hW, h1, h2⟩ := width_of b
  have h3 := Int.fmod_nonneg_of_pos a (b := 6) (by decide)
  have h4 := Int.fmod_lt_of_pos a (b := 6) (by decide)
  rw [hW] at h
  exact ⟨z.toNat, W, by omega, hW, h1, h2, by omega, by omega, by omega⟩
theorem many_nat (z : Int) : ∃ M : Nat, 2 + z.fmod 119 = (M : Int) ∧ 2 ≤ M ∧ M ≤ 120 := by
  have h3 := Int.fmod_nonneg_of_pos z (b := 119) (by decide)
  have h4 := Int.fmod_lt_of_pos z (b := 119) (by decide)
  exact ⟨(2 + z.fmod 119).toNat, by omega, by omega, by omega⟩
theorem share_nat (W sz : Nat) : ((W : Int) + 1).fdiv ((sz : Int) + 1) = (((W + 1) / (sz + 1) : Nat) : Int) := by
  have e1 : (W : Int) + 1 = ((W + 1 : Nat) : Int) := by omega
  have e2 : (sz : Int) + 1 = ((sz + 1 : Nat) : Int) := by omega
  rw [e1, e2]
  rfl
theorem many_of {o : Obj} {z : Int} {t : Tok} (_ : o.data = Data.cell (some (Value.int (2 + z.fmod 119) t))) : ∃ M : Nat, 2 + z.fmod 119 = (M : Int) ∧ 2 ≤ M ∧ M ≤ 120 := many_nat z
theorem range_n {M sh : Nat} (hM : 2 ≤ M) (hs : 1 ≤ sh) : Builtin.Range.rangeSize 0 (M : Int) (sh : Int) = ((cnt sh M : Nat) : Int) := by
  unfold Builtin.Range.rangeSize cnt
  rw [if_pos (by omega), if_pos (by omega), if_neg (by omega)]
  have e : (M : Int) - 0 - 1 = ((M - 1 : Nat) : Int) := by omega
  rw [e]
  show ((M - 1 : Nat) : Int) / (sh : Int) + 1 = (((M - 1) / sh + 1 : Nat) : Int)
  rw [Int.natCast_add, Int.natCast_ediv]
  rfl
theorem cnt_le {M sh : Nat} (hM : M ≤ 120) : cnt sh M ≤ 121 := by
  unfold cnt
  split
  · omega
  · have := Nat.div_le_self (M - 1) sh
    omega
theorem range_small {M sh : Nat} (hM1 : 2 ≤ M) (hM : M ≤ 120) (hs1 : 1 ≤ sh) (hs : sh ≤ 61) : Builtin.Range.small 0 (M : Int) (sh : Int) = true := by
  have hn := range_n hM1 hs1
  have hc := cnt_le (sh := sh) hM
  unfold Builtin.Range.small
  rw [hn]
  rw [if_pos (by omega)]
  simp only [Builtin.Range.rangeFitsLong, Bool.and_eq_true, Bool.or_eq_true, decide_eq_true_eq, beq_iff_eq]
  omega
def stepKs (sh n : Nat) : List Int := (List.range n).map fun (i : Nat) => (0 : Int) + (i : Int) * (sh : Int)
theorem stepKs_at {sh n i : Nat} (h : i < n) : (stepKs sh n)[i]? = some ((0 : Int) + (i : Int) * (sh : Int)) := by simp [stepKs, h]
theorem stepKs_mem {sh M : Nat} {k : Int} (hM : 2 ≤ M) (hs : 1 ≤ sh) (h : k ∈ stepKs sh (cnt sh M)) : 0 ≤ k ∧ k < M := by
  obtain ⟨i, hi, rfl⟩ := List.mem_map.mp h
  have hi := List.mem_range.mp hi
  unfold cnt at hi
  rw [if_neg (by omega)] at hi
  have h1 : i * sh ≤ (M - 1) / sh * sh := Nat.mul_le_mul_right _ (by omega)
  have h2 := Nat.div_mul_le_self (M - 1) sh
  have h3 : (i : Int) * (sh : Int) = ((i * sh : Nat) : Int) := by rw [Int.natCast_mul]
  rw [h3]
  omega
theorem due_eq {sh M : Nat} {w : List Nat} : (dueL sh w M).map S = (stepKs sh (cnt sh M)).map fun k => S (joinW (List.replicate (min (sh : Int) ((M : Int) - k)).toNat w)) := by
  unfold dueL stepKs
  rw [List.map_map, List.map_map]
  refine List.map_congr_left fun i _ => ?_
  show S (joinW (List.replicate (min sh (M - i * sh)) w)) = S (joinW (List.replicate (min (sh : Int) ((M : Int) - ((0 : Int) + (i : Int) * (sh : Int)))).toNat w))
  have h3 : (i : Int) * (sh : Int) = ((i * sh : Nat) : Int) := by rw [Int.natCast_mul]
  rw [h3]
  congr 3
  omega
theorem strOk_join {ws : List (List Nat)} (hg : ∀ x ∈ ws, Good x) : PyData.strOk (S (joinW ws)) = true := by
  unfold PyData.strOk
  rw [Array.all_eq_true']
  intro c hc
  have hm : c ∈ joinW ws := by simpa [S] using hc
  rcases joinW_mem hg hm with h | h
  · rw [h]; decide
  · exact decide_eq_true (by omega)
-- Comp
section
variable {prog : Program} {w : World} {A : Around} {E : Value → Shared → Prop} {s : Shared} {h₀ : Heap} {L : Addr} {m : Str → Option Value} {env : Env}
/-- the iterable of a block is a range by steps; what its turns give -/
def StepSrc (prog : Program) (w : World) (A : Around) (h₀ : Heap) (L : Addr) (m : Str → Option Value) (env : Env) (elt : PySem.Expr) (x : Str) (scope : Scope) (cl : List (Str × Addr)) (Fin : Shared → List Value → List (Addr × Obj) → Prop) (xv : Value) (s₁ : Shared) : Prop :=
  ∃ (r : Addr) (a b st : Int) (t u v : Tok) (n : Nat) (news : List (Addr × Obj)), xv = .ref r ∧ A.handled = none ∧ Fr h₀ L s₁.heap m ∧ News h₀ L s₁.heap news ∧ IsRange s₁.heap r a b st t u v ∧ Builtin.Range.small a b st = true ∧ Builtin.Range.rangeSize a b st = (n : Int) ∧ n ≤ sizeLine ∧
    ∀ g : Heap, LCg.CompRest prog w A h₀ L m env elt x scope cl { s₁ with heap := g } (fun _ => True) (fun i v => i < n ∧ ∃ t, v = .int (a + (i : Int) * st) t) (Fin { s₁ with heap := g }) n 0 [] news
theorem comp_step {elt iter : PySem.Expr} {x y : Str} {px py : PySem.Pos} {scope : Scope} {cl : List (Str × Addr)} {pos spos : PySem.Pos} {Q : Flow → Shared → Prop} (F₀ : Fr h₀ L s.heap m) (hLe : env.locals = L)
    (hsw : swapsWith (.ListComp elt [⟨.Name x px, iter, [], 0⟩] scope pos) (some (.Name y py)) spos.line env = pure true)
    (hclos : closureFor scope env = pure cl) (hcell : ∀ z ∈ scope.names, z.2 ≠ .cell) (hkind : scope.kind = .function)
    (hnames : ∀ z ∈ scope.names, z.2 = .local → scope.names.lookup z.1 = some .local) (hx : scope.names.lookup x = some .local)
    (hy : env.kindOf y = some .local) (hp : (env.scope.kind == .class || (env.scope.kind == .module && env.locals != env.globals)) = false)
    (h : wpAny (model prog w) A (eval iter env) (StepSrc prog w A h₀ L m env elt x scope cl (fun s₂ => LCg.FinA h₀ L m s₂ y Q)) E s)
    (hs : ∀ x, foldedSetIterable iter env x = pure x := by intro _; rfl) :
    wpAny (model prog w) A (exec (.Assign [.Name y py] (.ListComp elt [⟨.Name x px, iter, [], 0⟩] scope pos) spos) env) Q E s := by
  cases hLe
  rw [exec_Assign_Name_used _ _ _ _ hsw]
  refine wpAny_bind (wpAny_standAt (wpAny_bind ?_))
  refine wpAny_bind (wpAny_mono (wpAny_comprehension_free (use := some (assign (.Name y py) env)) (Q := fun _ s' => Q .next s') rfl hs hclos hkind hnames (wpAny_mono h ?_ fun _ _ e => e)) (fun _ s' hq => wpAny_pure (wpAny_pure hq)) fun _ _ e => e)
  rintro xv s₁ ⟨r, a, b, st, t, u, v, n, news, rfl, hh, F, N, hr, hsm, hn, hsz, R⟩
  refine wpAny_pyIter_range hr hsm ?_
  have grow : ∀ b' o', s₁.heap.get? b' = some o' → (s₁.heap.push { cls := .type "range_iterator", data := .fields #[rawInt a, rawInt (Builtin.Range.rangeSize a b st), rawInt st] }).get? b' = some o' := fun _ _ e => Heap.get?_push_of_some _ e
  have start : IsRangeIter (s₁.heap.push { cls := .type "range_iterator", data := .fields #[rawInt a, rawInt (Builtin.Range.rangeSize a b st), rawInt st] }) s₁.heap.objs.size (a + ((0 : Nat) : Int) * st) ((n : Int) - ((0 : Nat) : Int)) st := by
    rw [hn]
    show Heap.get? _ _ = some _
    have e1 : a + ((0 : Nat) : Int) * st = a := by simp
    have e2 : (n : Int) - ((0 : Nat) : Int) = n := by simp
    rw [e1, e2]
    exact Heap.get?_push_size _ rfl
  refine LCg.block_U (Walks.range hh s₁.heap.objs.size a st n).bound hsz (fun _ _ q => ⟨_, q⟩) ?_ hcell hkind hx start (fun b' hb' => ?_) (F.keeps grow) (N.grown grow) (Nat.ne_of_lt F.ns.lt) (next_is_new F) (fun p hp => Nat.ne_of_lt (Heap.lt_size (N p hp).1)) trivial (R _) ?_
  · intro i h1 h2 o nw q e e' _ _ _
    have q' : h1.get? s₁.heap.objs.size = some _ := q
    show h2.get? s₁.heap.objs.size = some _
    rw [e']; rw [e] at q'; exact q'
  · have := List.mem_singleton.mp hb'
    subst this
    show s₁.heap.objs.size < (s₁.heap.push _).objs.size
    rw [Heap.size_push]; exact Nat.lt_succ_self _
  · intro D C h' tk m' ys news' F' N' o1 hnC hC₀ hD₀ hCL hDL hCD offC fin
    refine wpAny_assign_Name (wpAny_storeName_local hy F'.ns (fun h₂ hn₂ hs₂ => ?_) hp)
    have hL₀ : h₀.get? env.locals = none := Heap.get?_none_of_le F'.above
    have F₂ : Fr h₀ env.locals h₂ (fun z => if z = y then some (.ref D) else m z) := ⟨hn₂, fun b' o' e => hs₂.extBut b' o' (fun q => by rw [q, hL₀] at e; cases e) (F'.keep b' o' e), F'.above⟩
    refine ⟨m', hnC.sameBut hs₂ hCL, fun h'' hs'' => fin D h'' _ (F₂.change hs'' hCL hC₀) (fun p hp => ⟨hs''.extBut _ _ ?_ (hs₂.extBut _ _ (N' p hp).2.1 (N' p hp).1), (N' p hp).2⟩) o1⟩
    rcases List.mem_cons.mp hp with rfl | hp
    · exact Ne.symm hCD
    · exact offC p hp
end
theorem canLayS : ∀ ls : List PySem.Str, (∀ x ∈ ls, PyData.strOk x = true) → PyData.canLayAll0 (ls.map PyData.str) = true
  | [], _ => rfl
  | a :: r, h => by simp [PyData.canLayAll0, PyData.canLay0, canLayS r fun x hx => h x (.tail _ hx), h a (.head _)]
theorem depthS : ∀ ls : List PySem.Str, PyData.depthAll (ls.map PyData.str) = 0
  | [] => rfl
  | _ :: r => by simp [PyData.depthAll, PyData.depth, depthS r]
theorem shapedS (ls : List PySem.Str) (h : ∀ x ∈ ls, PyData.strOk x = true) : SeqAt.shaped (.list (ls.map PyData.str)) = true := by
  simp [SeqAt.shaped, PyData.canLay0, PyData.depth, canLayS ls h, depthS]
theorem sameAllS : ∀ ls : List PySem.Str, PySem.Spec.sameAll (ls.map PyData.str) (ls.map PyData.str) = true
  | [] => by simp [PySem.Spec.sameAll]
  | a :: r => by
    simp only [List.map_cons, PySem.Spec.sameAll, PySem.Spec.same, sameAllS r]
    simp
theorem sameS (ls : List PySem.Str) : PySem.Spec.same (.list (ls.map PyData.str)) (.list (ls.map PyData.str)) = true := by
  simp only [PySem.Spec.same]; exact sameAllS ls
theorem eq_strs {prog : Program} {w : World} {A : Around} {E : Value → Shared → Prop} {s : Shared} {a b : Addr} {xs ys : List Value} {ls : List PySem.Str} {Q : Value → Shared → Prop}
    (ha : s.heap.IsList a xs.toArray) (hb : s.heap.IsList b ys.toArray) (hi : CarriedAll xs (ls.map PyData.str)) (hj : CarriedAll ys (ls.map PyData.str)) (hok : ∀ x ∈ ls, PyData.strOk x = true) (hu : A.units + 64 < cLine) (h : Q (.bool true) s) :
    wpAny (model prog w) A (compareOp .Eq (.ref a) (.ref b)) Q E s :=
  eq_dataH_same (reads_newData ha hi) (reads_newData hb hj) (shapedS _ hok) (shapedS _ hok) hu (SeqAt.noMix_of_shape (.list .str) rfl _ _ (list_map_has fun _ => rfl) (list_map_has fun _ => rfl)) (by rw [sameS]; exact h)
-- D7
theorem min_S {prog : Program} {w : World} {A : Around} {E : Value → Shared → Prop} {s : Shared} {h₀ : Heap} {L : Addr} {m : Str → Option Value} {news : List (Addr × Obj)} {a b : Int} {t u : Tok} {Q : Value → Shared → Prop} (hh : A.handled = none) (F : Fr h₀ L s.heap m) (N : News h₀ L s.heap news)
    (h : ∀ z t h' tk, z = min a b → Fr h₀ L h' m → News h₀ L h' news → Q (.int z t) { s with heap := h', toks := tk }) :
    wpAny (model prog w) A (call (.builtin "min") [.int a t, .int b u]) Q E s :=
  min_two_N hh F N fun h' tk F' N' => h _ _ h' tk (by split <;> omega) F' N'
section
local macro_rules | `(tactic| walk_at "call builtin:min") => `(tactic| (k_here; (with_reducible show wpAny _ _ (call (Value.builtin "min") [Value.int _ _, Value.int _ _]) _ _ _); k_dflt (refine' min_S ?h ?F ?N ?_; (case h => exact rfl); (case F => k_asm); (case N => k_asm); k_whole); intro z' t' h' tk' hz' F' N'; (try k_sweep)))
local macro_rules | `(tactic| walk_at "eval Call Name") => `(tactic| refine Call_ ?_)
local macro_rules | `(tactic| walk_at "exec Assign cons ListComp") => `(tactic| (refine halt_in ?_))
local macro_rules | `(tactic| walk_at "call ref") => `(tactic| ((with_reducible show wpAny _ _ (call (Value.ref 63) _) _ _ _); (refine halt_in ?_)))
local macro_rules | `(tactic| walk_at "call ref") => `(tactic| ((with_reducible show wpAny _ _ (call (Value.ref 84) _) _ _ _); (refine halt_in ?_)))
local macro_rules | `(tactic| walk_at "call ref") => `(tactic| ((with_reducible show wpAny _ _ (call (Value.ref 77) _) _ _ _); k_dflt (refine' words_use ?k1 ?k2 ?k3 ?k4 ?k5 rfl rfl rfl ?k6 ?k7 rfl rfl ?g1 ?g2 ?g3 ?_; (case k1 => k_asm); (case k2 => k_asm); (case k3 => k_asm); (case k4 => k_asm); (case k5 => k_asm); (case k6 => exact Nat.le_of_ble_eq_true rfl); (case k7 => exact Nat.le_of_ble_eq_true rfl); (case g1 => first | exact Fr.lst (by assumption) (by assumption) | exact News.isList (by k_asm) (by k_mem)); (case g2 => assumption); (case g3 => (rw [List.length_take]; omega)); intro r' vs' n' ws' h' tk' hs' hg' hn' hz' hr' F' N'; (have hgl' := join_room hg' hz'); (try k_sweep))))
local macro_rules | `(tactic| walk_at "call ref") => `(tactic| ((with_reducible show wpAny _ _ (call (Value.ref 70) _) _ _ _); k_dflt (refine' raw_use ?k1 ?k2 ?k3 ?k4 ?k5 rfl rfl rfl ?k6 ?k7 rfl rfl ?g1 ?g2 ?g3 ?g4 ?g5 ?_; (case k1 => k_asm); (case k2 => k_asm); (case k3 => k_asm); (case k4 => k_asm); (case k5 => k_asm); (case k6 => exact Nat.le_of_ble_eq_true rfl); (case k7 => exact Nat.le_of_ble_eq_true rfl); (case g1 => first | exact Fr.lst (by assumption) (by assumption) | exact News.isList (by k_asm) (by k_mem)); (case g2 => assumption); (case g3 => (rw [List.length_take]; omega)); (case g4 => omega); (case g5 => omega); intro z' t' h' tk' F' N'; (have hrf' := raw_facts z'); (refine plainly ?_); (try k_sweep))))
local macro_rules | `(tactic| walk_at "binaryOp Mult ref int") => `(tactic| (k_here; (with_reducible show wpAny _ _ (binaryOp Operator.Mult (Value.ref _) (Value.int _ _)) _ _ _); k_dflt (refine' KMa.mul ?F ?N ?l ?lo ?hi ?z ?e ?_; (case F => k_asm); (case N => k_asm); (case l => exact News.isList (by k_asm) (by k_mem)); (case lo => omega); (case hi => omega); (case z => (show (1 : Nat) * _ ≤ 256; omega)); (case e => exact rep_flat _ _); k_whole); intro D' h' F' N' l1; (try k_lt l1); (try k_sweep)))
local macro_rules | `(tactic| walk_at "call builtin:str.join") => `(tactic| (k_here; (with_reducible show wpAny _ _ (call (Value.builtin "str.join") [Value.str _ _, Value.ref _]) _ _ _); k_dflt (refine' join_SB ?N ?m ?s ?z ?_; (case N => k_asm); (case m => k_mem); (case s => exact rep_strs rfl _ _); (case z => exact rep_room (by omega) (by omega)); k_whole); intro _ _))
local macro_rules | `(tactic| walk_at "compareOp Eq ref ref") => `(tactic| (k_here; (with_reducible show wpAny _ _ (compareOp CmpOp.Eq (Value.ref _) (Value.ref _)) _ _ _); k_dflt (refine' eq_strs ?a ?b ?i ?j ?o ?u ?_; (case a => exact News.isList (by k_asm) (by k_mem)); (case b => exact News.isList (by k_asm) (by k_mem)); (case i => assumption); (case j => assumption); (case o => assumption); (case u => exact Nat.le_of_ble_eq_true rfl); k_whole)))
local macro_rules | `(tactic| walk_at "CompEnd") => `(tactic| (refine haltP_in ?_))
theorem t0 : PySem.Challenge.rw_ag6020_01.Holds := hd (by
  k_go0
  (all_goals try k_fold)
  walk_at "mine steps"
  · refine halt_out ?_
    (rename (_ = min _ _) => hsz)
    obtain ⟨sz, W, hszN, hW, hW1, hW2, hs1, hs6, hsW⟩ := size_nat hsz (by assumption)
    subst hszN
    obtain ⟨wl, eW, gw, hwl⟩ := let_slice0 (b := (sz : Int)) (by omega) (by omega)
    (rename (Obj.data _ = Data.cell (some (Value.str _ _))) => hword)
    (rename (Obj.data _ = Data.cell (some (Value.int (2 + _) _))) => hmany)
    (rename (Obj.data _ = Data.cell (some (Value.int (Int.fdiv _ _) _))) => hshare)
    rw [eW] at hword
    obtain ⟨M, hM, hM1, hM2⟩ := many_of hmany
    rw [hM] at hmany
    rw [hW, share_nat] at hshare
    have hsh1 : 1 ≤ (W + 1) / (sz + 1) := Nat.div_pos (by omega) (by omega)
    have hsh2 : (W + 1) / (sz + 1) ≤ 61 := by have := Nat.div_le_self (W + 1) (sz + 1); omega
    generalize hshe : (W + 1) / (sz + 1) = sh at hshare hsh1 hsh2
    have hwl2 : wl.length = sz := by omega
    clear eW hsz
    have hcnt := cnt_le (sh := sh) hM2
    have hcnt0 := range_n hM1 hsh1
    have hsm := range_small hM1 hM2 hsh1 hsh2
    (rename Fr _ _ _ _ => F)
    (rename News _ _ _ _ => N)
    refine comp_step F rfl (by with_unfolding_all rfl) (by with_unfolding_all rfl) (by decide) (by rfl) (by decide) (by rfl) (by rfl) (by rfl) ?_
    walk_at "mine go"
    (rename Fr _ _ _ _ => F)
    (rename News _ _ _ _ => N)
    (rename IsRange _ _ _ _ _ _ _ _ => hR)
    refine ⟨_, _, _, _, _, _, _, cnt sh M, _, rfl, rfl, F, N, hR, hsm, hcnt0, by rw [sizeLine_eq]; omega, fun g => ?_⟩
    refine kct_rest (ks := stepKs sh (cnt sh M)) (fun k => S (joinW (List.replicate (min (sh : Int) ((M : Int) - k)).toNat wl))) (by simp [stepKs]) ?hP ?turn ?fin
    case hP =>
      rintro i v hi ⟨_, t, rfl⟩
      exact ⟨_, t, stepKs_at hi, rfl⟩
    case turn =>
      intro k t I oI C oC D m2 ys h3 tk3 E' hk hC hx F N off ne _
      have hkb := stepKs_mem hM1 hsh1 hk
      have off0 := off
      simp only [LCg.Off3, and_true] at off
      walk_at "mine go"
      (rename News _ _ _ _ => nE)
      (rename (_ = min _ _) => hmn)
      refine haltP_out (LCg.CompEnd.intro (by assumption) nE _ (fun p hp => .tail _ (.tail _ hp)) off0 trivial ?_)
      exact ⟨rfl, _, by rw [hmn]⟩
    case fin =>
      intro ys hys _
      have hc2 : CarriedAll ys (((stepKs sh (cnt sh M)).map fun k => S (joinW (List.replicate (min (sh : Int) ((M : Int) - k)).toNat wl))).map PyData.str) := by rw [List.map_map]; exact hys
      have hok : ∀ x ∈ ((stepKs sh (cnt sh M)).map fun k => S (joinW (List.replicate (min (sh : Int) ((M : Int) - k)).toNat wl))), PyData.strOk x = true := by
        intro x hx
        obtain ⟨k, _, rfl⟩ := List.mem_map.mp hx
        exact strOk_join fun y hy => by rw [List.eq_of_mem_replicate hy]; exact gw
      intro D h4 tk4 F N off
      refine plainly ?_
      (try k_sweep)
      walk_at "mine steps"
      refine halt_out ?_
      rw [hW, Int.toNat_natCast]
      refine' tw_use (W := W) (ws := List.replicate M wl) ?k1 ?k2 ?k3 ?k4 ?k5 rfl rfl rfl ?k6 ?k7 rfl rfl ?g1 ?g2 ?g3 hW1 hW2 ?_
      (case k1 => k_asm)
      (case k2 => k_asm)
      (case k3 => k_asm)
      (case k4 => k_asm)
      (case k5 => k_asm)
      (case k6 => exact Nat.le_of_ble_eq_true rfl)
      (case k7 => exact Nat.le_of_ble_eq_true rfl)
      (case g1 => exact fun x hx => by rw [List.eq_of_mem_replicate hx]; exact gw)
      (case g2 => exact fun e => by have := congrArg List.length e; rw [List.length_replicate, List.length_nil] at this; omega)
      (case g3 => exact rep_joinW hM2 (by omega))
      intro r vs n lns h' tk' hs hwr hr F' N'
      have hlns := wraps_rep (w := wl) (W := W) (sh := sh) (by omega) (by rw [hwl2]; exact hshe.symm) hsh1 lns M hwr.1
      rw [hlns, due_eq] at hs
      have hc1 := hs.carried
      refine plainly ?_
      (try k_sweep)
      k_steps
  · refine halt_out ?_
    (rename Int => z)
    obtain ⟨W, hW, hW1, hW2⟩ := width_of z
    rw [hW]
    refine' tw_use (W := W) ?k1 ?k2 ?k3 ?k4 ?k5 rfl rfl rfl ?k6 ?k7 rfl rfl ?g1 ?g2 ?g3 hW1 hW2 ?_
    (case k1 => k_asm)
    (case k2 => k_asm)
    (case k3 => k_asm)
    (case k4 => k_asm)
    (case k5 => k_asm)
    (case k6 => exact Nat.le_of_ble_eq_true rfl)
    (case k7 => exact Nat.le_of_ble_eq_true rfl)
    (case g1 => assumption)
    (case g2 => assumption)
    (case g3 => assumption)
    intro r vs n lns h' tk' hs hwr hr F' N'
    refine plainly ?_
    (try k_sweep)
    walk_at "mine steps"
    refine halt_out ?_
    rw [hW]
    refine' fits_use (W := W) ?k1 ?k2 ?k3 ?k4 ?k5 rfl rfl rfl ?k6 ?k7 rfl rfl ?l1 ?l2 ?s1 hs ?g1 ?g2 ?g3 hwr hW1 hW2 ?_
    (case k1 => k_asm)
    (case k2 => k_asm)
    (case k3 => k_asm)
    (case k4 => k_asm)
    (case k5 => k_asm)
    (case k6 => exact Nat.le_of_ble_eq_true rfl)
    (case k7 => exact Nat.le_of_ble_eq_true rfl)
    (case l1 => exact News.isList (by k_asm) (by k_mem))
    (case l2 => exact News.isList (by k_asm) (by k_mem))
    (case s1 => assumption)
    (case g1 => assumption)
    (case g2 => assumption)
    (case g3 => assumption)
    intro h' tk' F' N'
    k_steps)
end
end Mine
theorem PySem.Challenge.cw_ag6020_01_holds : PySem.Challenge.rw_ag6020_01.Holds := by
  exact Mine.t0
