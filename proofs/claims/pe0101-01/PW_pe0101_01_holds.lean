import PyProof.Rows.All
import Wide.All
import OpenK.AllK
import Wide.FinOn
import PySem.Challenge.RW_pe0101_01
set_option Elab.async false
set_option linter.unusedVariables false

section PartHead1
open PySem PySem.W PyProof.Rows
namespace Mine
set_option maxRecDepth 100000 in
set_option maxHeartbeats 8000000 in
open_top hd for PySem.Challenge.rw_pe0101_01
end Mine
end PartHead1

section PartB1
open PySem PySem.W PyProof.Rows
namespace Mine
local macro_rules | `(tactic| walk_at "pad0") => `(tactic| skip)
section
variable {w : World} {A : Around} {base h₀ : Heap} {outer : List Env} {env : Env} {L : Addr} {s : Shared} {m mg mb : Str → Option Value} {news : List (Addr × Obj)} {p : Program} {loose : List Str} {mean : ExcName → Option Value} {Q : Value → Shared → Prop} {E : Value → Shared → Prop}

set_option maxRecDepth 100000 in
set_option maxHeartbeats 4000000 in
theorem c_isterm {x : Int} {t : Tok} (B : Below A base outer h₀) (F : Fr h₀ L s.heap m) (X₀ : (hd.heap_39 w.params).In h₀) (N : News h₀ L s.heap news) (T : Top p loose mean mg mb h₀) (hf : env.frame = some L) (hke : env.scope.kind = .function)
   (hroom : A.depth + 5 < recursionLimit)
   (h : ∀ h' tk, Fr h₀ L h' m → News h₀ L h' news → Q (.bool (decide (x < 256))) { s with heap := h', toks := tk }) :
   wpAny (model PySem.Challenge.rw_pe0101_01.row.prog w) (A.deeper env) (call (.ref 57) [.int x t] []) Q E s := by
  revert X₀
  k_fill
  intro X₀
  refine wpAny_call ?_
  refine' code_def B F X₀ N T (Around.frames_deeper B.stack) hf hke ?k6 ?k7 (by show A.depth + 1 < _; omega) ?k9 ?kB ?_ ?c2 ?c3 ?c4 ?c5
  (case k6 => k_is); (case k7 => k_is);  (case k9 => exact BindsTo.of_eq rfl); (case c5 => decide); (case kB => exact locs rfl); (case c2 => exact rfl); (case c3 => exact rfl); (case c4 => exact rfl)
  intro g' L' h' FG' F' N' B' X' T'; (try dsimp only); (try k_fold)
  k_steps
  exact h _ _ (by assumption) (by assumption)
set_option maxRecDepth 100000 in
set_option maxHeartbeats 4000000 in
theorem c_isnon {x : Int} {t : Tok} (B : Below A base outer h₀) (F : Fr h₀ L s.heap m) (X₀ : (hd.heap_39 w.params).In h₀) (N : News h₀ L s.heap news) (T : Top p loose mean mg mb h₀) (hf : env.frame = some L) (hke : env.scope.kind = .function)
   (hroom : A.depth + 5 < recursionLimit)
   (h : ∀ h' tk, Fr h₀ L h' m → News h₀ L h' news → Q (.bool (decide (256 ≤ x))) { s with heap := h', toks := tk }) :
   wpAny (model PySem.Challenge.rw_pe0101_01.row.prog w) (A.deeper env) (call (.ref 64) [.int x t] []) Q E s := by
  revert X₀
  k_fill
  intro X₀
  refine wpAny_call ?_
  refine' code_def B F X₀ N T (Around.frames_deeper B.stack) hf hke ?k6 ?k7 (by show A.depth + 1 < _; omega) ?k9 ?kB ?_ ?c2 ?c3 ?c4 ?c5
  (case k6 => k_is); (case k7 => k_is);  (case k9 => exact BindsTo.of_eq rfl); (case c5 => decide); (case kB => exact locs rfl); (case c2 => exact rfl); (case c3 => exact rfl); (case c4 => exact rfl)
  intro g' L' h' FG' F' N' B' X' T'; (try dsimp only); (try k_fold)
  k_steps
  exact h _ _ (by assumption) (by assumption)
set_option maxRecDepth 100000 in
set_option maxHeartbeats 4000000 in
theorem c_iseof {x : Int} {t : Tok} (B : Below A base outer h₀) (F : Fr h₀ L s.heap m) (X₀ : (hd.heap_39 w.params).In h₀) (N : News h₀ L s.heap news) (T : Top p loose mean mg mb h₀) (hf : env.frame = some L) (hke : env.scope.kind = .function)
   (hroom : A.depth + 5 < recursionLimit)
   (h : ∀ h' tk, Fr h₀ L h' m → News h₀ L h' news → Q (.bool (decide (x = 0))) { s with heap := h', toks := tk }) :
   wpAny (model PySem.Challenge.rw_pe0101_01.row.prog w) (A.deeper env) (call (.ref 71) [.int x t] []) Q E s := by
  revert X₀
  k_fill
  intro X₀
  refine wpAny_call ?_
  refine' code_def B F X₀ N T (Around.frames_deeper B.stack) hf hke ?k6 ?k7 (by show A.depth + 1 < _; omega) ?k9 ?kB ?_ ?c2 ?c3 ?c4 ?c5
  (case k6 => k_is); (case k7 => k_is);  (case k9 => exact BindsTo.of_eq rfl); (case c5 => decide); (case kB => exact locs rfl); (case c2 => exact rfl); (case c3 => exact rfl); (case c4 => exact rfl)
  intro g' L' h' FG' F' N' B' X' T'; (try dsimp only); (try k_fold)
  k_steps
  exact h _ _ (by assumption) (by assumption)
end
end Mine
end PartB1

section PartB2
open PySem PySem.W PyProof.Rows
namespace Mine
def lamQual : Str := (Str.ofString "_law_view" ++ Str.ofString ".<locals>.") ++ Str.ofString "<lambda>"
/-- the code objects kept in the table are in the ledger -/
def TabInv (news : List (Addr × Obj)) (ps : Array Value) : Prop :=
  TriplesOk ps.toList ∧ ∀ pos cv, codeAmong pos ps.toList = some cv → ∃ c' oc vs t, cv = .ref c' ∧ (c', oc) ∈ news ∧ oc.data = .fields vs ∧ vs[1]? = some (.str lamQual t)
theorem TabInv.nil {news : List (Addr × Obj)} : TabInv news #[] := ⟨trivial, fun pos cv h => by simp [codeAmong] at h⟩
theorem TabInv.mono {news news' : List (Addr × Obj)} {ps : Array Value} (h : TabInv news ps) (hs : ∀ p ∈ news, p ∈ news') : TabInv news' ps :=
  ⟨h.1, fun pos cv e => let ⟨c', oc, vs, t, a, b, c, d⟩ := h.2 pos cv e; ⟨c', oc, vs, t, a, hs _ b, c, d⟩⟩
theorem triples_snoc (i j : Int) (t u : Tok) (c : Value) (l : List Value) (h : TriplesOk l) : TriplesOk (l ++ [.int i t, .int j u, c]) := by
  fun_induction TriplesOk l with
  | case1 => simp [TriplesOk]
  | case2 a t b u x rest ih => simp only [List.cons_append, TriplesOk] at h ⊢; exact ih h
  | case3 => exact h.elim
theorem among_snoc (pos : Pos) (i j : Int) (t u : Tok) (c cv : Value) (l : List Value) (h : TriplesOk l) (e : codeAmong pos (l ++ [.int i t, .int j u, c]) = some cv) : codeAmong pos l = some cv ∨ cv = c := by
  fun_induction TriplesOk l with
  | case1 =>
    simp only [List.nil_append, codeAmong] at e
    split at e
    · exact .inr (Option.some.inj e).symm
    · cases e
  | case2 a t b u x rest ih =>
    simp only [List.cons_append, codeAmong] at e ⊢
    split at e
    · rename_i q
      rw [if_pos q]; exact .inl e
    · rename_i q
      rw [if_neg q]; exact ih h e
  | case3 => exact h.elim
section
variable {w : World} {A : Around} {base h₀ : Heap} {outer : List Env} {env : Env} {L : Addr} {s : Shared} {m mg mb : Str → Option Value} {news : List (Addr × Obj)} {p : Program} {loose : List Str} {mean : ExcName → Option Value} {Q : Value → Shared → Prop} {E : Value → Shared → Prop}

theorem my_lambda {M : Model} {cn : Str} {cs : Scope} {a cx : Addr} {co : Obj} {cl clos : List (Str × Addr)} {params : Arguments} {body : PySem.Expr} {scope : Scope} {pos : Pos} {ps : Array Value} {fr rest : List (Addr × Obj)}
    (F : Fr h₀ L s.heap m) (N : News h₀ L s.heap ((cx, co) :: (73, tabObj ps) :: (fr ++ rest))) (T : Top p loose mean mg mb h₀) (C : CodeHd h₀ 77 73) (hcx : cx ≠ 73) (hoff : ∀ q ∈ fr ++ rest, q.1 ≠ 73) (hI : TabInv rest ps)
    (hcl : closureFor scope (envX cn cs L a (.ref 77) cl) = pure clos) (hdef : defaultsOf params (envX cn cs L a (.ref 77) cl) = ([], [])) (hq : (envX cn cs L a (.ref 77) cl).qual ++ Str.ofString "<lambda>" = lamQual)
    (h : ∀ f c' oc vs t ctv h' tk ps' add, Fr h₀ L h' m →
      News h₀ L h' ((f, kla_obj (Str.ofString "<lambda>") lamQual params body scope clos ((mg "__name__").getD .none) c' ctv) :: (cx, co) :: (73, tabObj ps') :: (fr ++ (add ++ rest))) →
      (∀ q ∈ add, ∀ r ∈ (73, tabObj ps) :: (fr ++ rest), r.1 < q.1) → (∀ r ∈ (73, tabObj ps) :: (fr ++ rest), r.1 < f) → TabInv (add ++ rest) ps' → (c', oc) ∈ add ++ rest → oc.data = .fields vs → vs[1]? = some (.str lamQual t) → Q (.ref f) { s with heap := h', toks := tk }) :
    wpAny M A (eval (.Lambda params body scope pos) (envX cn cs L a (.ref 77) cl)) Q E s := by
  refine kla_eval hdef ?_
  have hq' : (envX cn cs L a (.ref 77) cl).qual ++ ("<lambda>" : Str) = lamQual := hq
  rw [hq']
  cases hf : codeAmong pos ps.toList with
  | none =>
    have U : UpdF 73 (tabObj ps) ((cx, co) :: (73, tabObj ps) :: (fr ++ rest)) (fun o' => (cx, co) :: (73, o') :: (fr ++ rest)) := .tail hcx (.head hoff)
    refine kla_nest F N T C rfl U hI.1 hf hcl fun f c' oc vs t ctv h' tk F' N' d1 d2 l1 l2 => ?_
    refine h f c' oc vs t ctv h' tk (ps ++ #[rawInt pos.line, rawInt pos.col, .ref c']) [(c', oc)] F' (fun q hq => N' q ?_) (fun q hq r hr => ?_) (fun r hr => Nat.lt_trans (l1 r (.tail _ hr)) l2) ?_ (.head _) d1 d2
    · simp only [List.mem_cons, List.mem_append, List.not_mem_nil, or_false, false_or] at hq ⊢
      rcases hq with h1 | h1 | h1 | h1 | h1 | h1 <;> simp [h1]
    · cases List.mem_singleton.mp hq
      exact l1 r (.tail _ hr)
    · refine ⟨?_, fun pos' cv e => ?_⟩
      · rw [Array.toList_append]; exact triples_snoc _ _ _ _ _ _ hI.1
      · rw [Array.toList_append] at e
        rcases among_snoc pos' _ _ _ _ _ _ _ hI.1 e with e | e
        · obtain ⟨c₁, oc₁, vs₁, t₁, a1, a2, a3, a4⟩ := hI.2 pos' cv e
          exact ⟨c₁, oc₁, vs₁, t₁, a1, .tail _ a2, a3, a4⟩
        · exact ⟨c', oc, vs, t, e, .head _, d1, d2⟩
  | some cv =>
    obtain ⟨c', oc, vs, t, rfl, hm, d1, d2⟩ := hI.2 pos cv hf
    refine kla_hit F N T C rfl (.tail _ (.head _)) hI.1 hf hcl fun f ctv h' tk F' N' l1 => ?_
    exact h f c' oc vs t ctv h' tk ps [] F' N' (fun q hq => nomatch hq) (fun r hr => l1 r (.tail _ hr)) hI hm d1 d2
end
end Mine
end PartB2

section PartB3
open PySem PySem.W PyProof.Rows
namespace Mine
def bodyOf : Stmt → List Stmt
  | .FunctionDef _ _ b _ _ _ _ _ _ _ => b
  | _ => []
def lamOf : Stmt → PySem.Expr
  | .If _ [.Return (some e) _] _ _ => e
  | .Return (some e) _ => e
  | _ => default
def lamParams : PySem.Expr → Arguments
  | .Lambda a _ _ _ => a
  | _ => default
def lamBody : PySem.Expr → PySem.Expr
  | .Lambda _ b _ _ => b
  | e => e
def lamScope : PySem.Expr → Scope
  | .Lambda _ _ s _ => s
  | _ => default
def topStmt (i : Nat) : Stmt := PySem.Challenge.pw_pe0101_01.main.body.getD i default
def lam (i : Nat) : PySem.Expr := lamOf ((bodyOf (topStmt 12)).getD i default)
def lamIdx (k : Int) : Nat := if k = 0 then 0 else if k = 1 then 1 else 2
/-- a judge's lambda at f, of that kind and part -/
def ViewIn (news : List (Addr × Obj)) (f : Addr) (k pt : Int) : Prop :=
  ∃ c co tp c' oc vs t ctv pm, (f, kla_obj (Str.ofString "<lambda>") lamQual (lamParams (lam (lamIdx k))) (lamBody (lam (lamIdx k))) (lamScope (lam (lamIdx k))) [(Str.ofString "part", c)] pm c' ctv) ∈ news ∧
    (c, co) ∈ news ∧ co.data = .cell (some (.int pt tp)) ∧ (c', oc) ∈ news ∧ oc.data = .fields vs ∧ vs[1]? = some (.str lamQual t)
theorem ViewIn.mono {news news' : List (Addr × Obj)} {f : Addr} {k pt : Int} (h : ViewIn news f k pt) (hs : ∀ p ∈ news, p ∈ news') : ViewIn news' f k pt :=
  let ⟨c, co, tp, c', oc, vs, t, ctv, pm, a, b, d, e, g, i⟩ := h; ⟨c, co, tp, c', oc, vs, t, ctv, pm, hs _ a, hs _ b, d, hs _ e, g, i⟩
local macro_rules | `(tactic| k_mem) => `(tactic| assumption)
local macro_rules | `(tactic| walk_at "eval Lambda") => `(tactic| (k_here; k_dflt (refine' my_lambda ?F ?N ?T ?C ?cx ?off ?I ?cl ?df ?q ?_; (case F => k_asm); (case N => k_asm); (case T => k_asm); (case C => k_asm); (case cx => with_reducible assumption); (case off => assumption); (case I => assumption); (case cl => exact rfl); (case df => exact rfl); (case q => exact rfl); k_whole); intro f' c' oc' vs' t' ct' h' tk' ps' ad' F' N' ha' hf' hi' hc' d1' d2'))
section
variable {w : World} {A : Around} {base h₀ : Heap} {outer : List Env} {env : Env} {L : Addr} {s : Shared} {m mg mb : Str → Option Value} {news : List (Addr × Obj)} {p : Program} {loose : List Str} {mean : ExcName → Option Value} {Q : Value → Shared → Prop} {E : Value → Shared → Prop}
theorem view_end {k pt : Int} {u : Tok} {f c c' : Addr} {co oc : Obj} {ps ps' vs : Array Value} {t : Tok} {ctv pm : Value} {params : Arguments} {body : PySem.Expr} {scope : Scope} {fr rest add : List (Addr × Obj)} {h' : Heap} {R : Prop}
    (h : ∀ new, Fr h₀ L h' m → News h₀ L h' ((73, tabObj ps') :: (fr ++ (new ++ rest))) → (∀ q ∈ new, ∀ r ∈ (73, tabObj ps) :: (fr ++ rest), r.1 < q.1) → TabInv (new ++ rest) ps' → ViewIn (new ++ rest) f k pt → R)
    (hcx : ∀ r ∈ (73, tabObj ps) :: (fr ++ rest), r.1 < c) (F' : Fr h₀ L h' m) (dc : co.data = .cell (some (.int pt u)))
    (N' : News h₀ L h' ((f, kla_obj (Str.ofString "<lambda>") lamQual params body scope [(Str.ofString "part", c)] pm c' ctv) :: (c, co) :: (73, tabObj ps') :: (fr ++ (add ++ rest))))
    (ha : ∀ q ∈ add, ∀ r ∈ (73, tabObj ps) :: (fr ++ rest), r.1 < q.1) (hf : ∀ r ∈ (73, tabObj ps) :: (fr ++ rest), r.1 < f) (hi : TabInv (add ++ rest) ps') (hc : (c', oc) ∈ add ++ rest) (d1 : oc.data = .fields vs) (d2 : vs[1]? = some (.str lamQual t))
    (e1 : params = lamParams (lam (lamIdx k))) (e2 : body = lamBody (lam (lamIdx k))) (e3 : scope = lamScope (lam (lamIdx k))) : R := by
  subst e1 e2 e3
  refine h ((f, _) :: (c, co) :: add) F' (fun q hq => N' q ?_) (fun q hq r hr => ?_) (hi.mono fun q hq => .tail _ (.tail _ hq)) ⟨c, co, u, c', oc, vs, t, ctv, pm, .head _, .tail _ (.head _), dc, .tail _ (.tail _ hc), d1, d2⟩
  · simp only [List.mem_cons, List.mem_append] at hq ⊢
    rcases hq with h1 | h1 | ((h1 | h1 | h1) | h1) <;> simp [h1]
  · rcases List.mem_cons.mp hq with rfl | hq
    · exact hf r hr
    · rcases List.mem_cons.mp hq with rfl | hq
      · exact hcx r hr
      · exact ha q hq r hr
set_option maxRecDepth 100000 in
set_option maxHeartbeats 4000000 in
theorem c_view {k pt : Int} {t u : Tok} {ps : Array Value} {fr rest : List (Addr × Obj)} (B : Below A base outer h₀) (F : Fr h₀ L s.heap m) (X₀ : (hd.heap_39 w.params).In h₀) (N : News h₀ L s.heap ((73, tabObj ps) :: (fr ++ rest))) (T : Top p loose mean mg mb h₀) (C : CodeHd h₀ 77 73) (hf : env.frame = some L) (hke : env.scope.kind = .function)
   (hroom : A.depth + 5 < recursionLimit) (hoff : ∀ q ∈ fr ++ rest, q.1 ≠ 73) (hI : TabInv rest ps)
   (h : ∀ h' tk f ps' new, Fr h₀ L h' m → News h₀ L h' ((73, tabObj ps') :: (fr ++ (new ++ rest))) → (∀ q ∈ new, ∀ r ∈ (73, tabObj ps) :: (fr ++ rest), r.1 < q.1) → TabInv (new ++ rest) ps' → ViewIn (new ++ rest) f k pt → Q (.ref f) { s with heap := h', toks := tk }) :
   wpAny (model PySem.Challenge.rw_pe0101_01.row.prog w) (A.deeper env) (call (.ref 78) [.int k t, .int pt u] []) Q E s := by
  revert X₀
  k_fill
  intro X₀
  refine wpAny_call ?_
  refine' code_defC B F X₀ N T (Around.frames_deeper B.stack) hf hke ?k6 ?k7 (by show A.depth + 1 < _; omega) ?k9 ?kB ?kD ?_ ?c2 ?c3 ?c4
  (case k6 => k_is); (case k7 => k_is); (case k9 => exact BindsTo.of_eq rfl); (case kB => exact rfl); (case kD => decide +kernel); (case c2 => exact rfl); (case c3 => exact rfl); (case c4 => exact rfl)
  intro g' L' h' tk' cells' FG' F' N' Y' B' X' T' l1
  obtain ⟨o', hE', dc⟩ := CellsAre.one Y'
  subst hE'
  clear Y'
  replace dc : o'.data = .cell (some (.int pt u)) := dc
  (try simp only [List.cons_append, List.nil_append] at N'); (try dsimp only); (try k_lift B'); (try k_fold)
  have C' := C.keeps FG'.keep
  have l2 : ∀ r ∈ (73, tabObj ps) :: (fr ++ rest), r.1 < L' + 1 := fun r hr => Nat.lt_succ_of_lt (l1 r hr)
  have l3 : L' + 1 ≠ 73 := Nat.ne_of_gt (l2 _ (.head _))
  clear C l1
  k_steps
  · have hk : lamIdx k = 0 := by simp [lamIdx, *]
    refine view_end (h _ _ _ _) l2 (by assumption) dc (by assumption) (by assumption) (by assumption) (by assumption) (by assumption) (by assumption) (by assumption) ?_ ?_ ?_ <;> (rw [hk]; rfl)
  · have hk : lamIdx k = 1 := by simp [lamIdx, *]
    refine view_end (h _ _ _ _) l2 (by assumption) dc (by assumption) (by assumption) (by assumption) (by assumption) (by assumption) (by assumption) (by assumption) ?_ ?_ ?_ <;> (rw [hk]; rfl)
  · have hk : lamIdx k = 2 := by simp [lamIdx, *]
    refine view_end (h _ _ _ _) l2 (by assumption) dc (by assumption) (by assumption) (by assumption) (by assumption) (by assumption) (by assumption) (by assumption) ?_ ?_ ?_ <;> (rw [hk]; rfl)
end
end Mine
end PartB3

section PartB4
open PySem PySem.W PyProof.Rows
namespace Mine
local macro_rules | `(tactic| k_mem) => `(tactic| with_reducible assumption)
theorem card_inv {news : List (Addr × Obj)} {v : Value} {x y : Int} (h : DatIn news v (.list [.int x, .int y])) :
    ∃ a n tx ty, v = .ref a ∧ (a, listOf #[.int x tx, .int y ty] n) ∈ news := by
  cases h with
  | list hm r =>
    cases r with
    | cons h1 r =>
      cases h1 with
      | int =>
        cases r with
        | cons h2 r =>
          cases h2 with
          | int =>
            cases r
            exact ⟨_, _, _, _, rfl, hm⟩
theorem my_item {prog : Program} {w : World} {A : Around} {E : Value → Shared → Prop} {s : Shared} {h₀ : Heap} {L l : Addr} {news : List (Addr × Obj)} {vs : List Value} {n : Nat} {value slice : PySem.Expr} {k : Int} {u : Tok} {v : Value} {Q : Value → Shared → Prop}
    (N : News h₀ L s.heap news) (hl : (l, listOf vs.toArray n) ∈ news) (h0 : 0 ≤ k) (hhi : k < 2 ^ 63) (hx : vs[k.toNat]? = some v) (h : Q v s)
    (hs : subscripted slice false (.ref l) (.int k u) = operate [.ref l, .int k u] (getItem (.ref l) (.int k u)) := by with_unfolding_all rfl) :
    wpAny (model prog w) A (subscriptTail value slice (.ref l) (.int k u)) Q E s :=
  have hL : s.heap.IsList l vs.toArray := ⟨_, N.get hl, rfl, n, rfl⟩
  tail_any hL.typeIs slot_list_getitem.lookup (wpAny_getItem_list hL h0 hhi (by simpa using hx) h) hs
local macro_rules | `(tactic| walk_at "subscriptTail") => `(tactic| (k_here; (with_reducible show wpAny _ _ (subscriptTail _ _ (Value.ref _) (Value.int _ _)) _ _ _); (with_unfolding_all refine' my_item ?k1 ?k2 ?k3 ?k4 ?k5 ?_ ?k6; (case k1 => k_asm); (case k2 => k_mem); (case k3 => decide); (case k4 => decide); (case k5 => rfl); (case k6 => with_unfolding_all rfl); k_whole)))
local macro_rules | `(tactic| walk_at "eval Name") => `(tactic| (k_here; kc_free; k_dflt (refine' nameX_F ?N ?c ?m ?d ?_ ?k ?x; (case k => rfl); (case x => rfl); (case N => k_asm); (case c => rfl); (case m => with_reducible assumption); (case d => with_reducible assumption); k_whole)))
local macro_rules | `(tactic| walk_at "binaryOp Mult int int") => `(tactic| (k_here; (with_reducible refine mul_int ?_ ?hm); (case hm => with_reducible assumption)))
local macro_rules | `(tactic| walk_at "call ref") => `(tactic| (k_here; k_dflt (refine' c_isterm ?B ?F ?X ?N ?T ?hf ?hk ?r ?_; (case B => k_asm); (case F => k_asm); (case X => k_asm); (case N => k_asm); (case T => k_asm); (case hf => rfl); (case hk => rfl); (case r => (simp only [depth_deeper]; omega)); k_whole); intro h' tk' F' N'))
local macro_rules | `(tactic| walk_at "call ref") => `(tactic| (k_here; k_dflt (refine' c_isnon ?B ?F ?X ?N ?T ?hf ?hk ?r ?_; (case B => k_asm); (case F => k_asm); (case X => k_asm); (case N => k_asm); (case T => k_asm); (case hf => rfl); (case hk => rfl); (case r => (simp only [depth_deeper]; omega)); k_whole); intro h' tk' F' N'))
local macro_rules | `(tactic| walk_at "call ref") => `(tactic| (k_here; k_dflt (refine' c_iseof ?B ?F ?X ?N ?T ?hf ?hk ?r ?_; (case B => k_asm); (case F => k_asm); (case X => k_asm); (case N => k_asm); (case T => k_asm); (case hf => rfl); (case hk => rfl); (case r => (simp only [depth_deeper]; omega)); k_whole); intro h' tk' F' N'))
section
variable {w : World} {A : Around} {base h₀ : Heap} {outer : List Env} {env : Env} {L : Addr} {s : Shared} {m mg mb : Str → Option Value} {news : List (Addr × Obj)} {p : Program} {loose : List Str} {mean : ExcName → Option Value} {Q : Value → Shared → Prop} {E : Value → Shared → Prop}
set_option maxRecDepth 100000 in
set_option maxHeartbeats 1000000 in
theorem c_key0 {k pt x y : Int} {f cd : Addr} {n : Nat} {tx ty : Tok} (B : Below A base outer h₀) (F : Fr h₀ L s.heap m) (X₀ : (hd.heap_39 w.params).In h₀) (N : News h₀ L s.heap news) (T : Top p loose mean mg mb h₀) (hf : env.frame = some L) (hke : env.scope.kind = .function)
   (hroom : A.depth + 10 < recursionLimit) (hV : ViewIn news f k pt) (e0 : lamIdx k = 0) (hC : (cd, listOf #[.int x tx, .int y ty] n) ∈ news) (hp : 0 ≤ pt ∧ pt ≤ 256)
   (h : ∀ h' tk, Fr h₀ L h' m → News h₀ L h' news → Q (.bool (decide ((x * pt).fmod 512 < 256))) { s with heap := h', toks := tk }) :
   wpAny (model PySem.Challenge.rw_pe0101_01.row.prog w) (A.deeper env) (call (.ref f) [.ref cd] []) Q E s := by
  revert X₀
  k_fill
  intro X₀
  obtain ⟨c, co, tp, c', oc, vs, t, ctv, pm, hm, hcm, dc, hcc, d1, d2⟩ := hV
  have hmo : IntMulOk x pt := IntMulOk.of_right (intBits_le_64 (by omega) (by omega))
  have e1 : lamParams (lam 0) = Arguments.mk _ _ _ _ _ _ _ := rfl
  have e2 : lamBody (lam 0) = PySem.Expr.Call _ _ _ _ := rfl
  have e3 : lamScope (lam 0) = Scope.mk _ _ _ _ _ := rfl
  rw [e0, e1, e2, e3] at hm
  refine wpAny_call ?_
  refine' kla_code B F X₀ N T (Around.frames_deeper B.stack) hf hke hm (codeRec_news N hcc d1 d2) (by show A.depth + 1 < _; omega) ?k9 ?kB ?_ ?c2 ?c3 ?c4 ?c5
  (case k9 => exact rfl); (case c5 => decide); (case kB => exact locs rfl); (case c2 => exact rfl); (case c3 => exact rfl); (case c4 => exact rfl)
  intro g' L' h' FG' F' N' B' X' T'; (try dsimp only); (try k_fold)
  k_steps
  exact h _ _ (by assumption) (by assumption)
set_option maxRecDepth 100000 in
set_option maxHeartbeats 1000000 in
theorem c_key1 {k pt x y : Int} {f cd : Addr} {n : Nat} {tx ty : Tok} (B : Below A base outer h₀) (F : Fr h₀ L s.heap m) (X₀ : (hd.heap_39 w.params).In h₀) (N : News h₀ L s.heap news) (T : Top p loose mean mg mb h₀) (hf : env.frame = some L) (hke : env.scope.kind = .function)
   (hroom : A.depth + 10 < recursionLimit) (hV : ViewIn news f k pt) (e0 : lamIdx k = 1) (hC : (cd, listOf #[.int x tx, .int y ty] n) ∈ news) (hp : 0 ≤ pt ∧ pt ≤ 256)
   (h : ∀ h' tk, Fr h₀ L h' m → News h₀ L h' news → Q (.bool (decide (256 ≤ (x * pt).fmod 512))) { s with heap := h', toks := tk }) :
   wpAny (model PySem.Challenge.rw_pe0101_01.row.prog w) (A.deeper env) (call (.ref f) [.ref cd] []) Q E s := by
  revert X₀
  k_fill
  intro X₀
  obtain ⟨c, co, tp, c', oc, vs, t, ctv, pm, hm, hcm, dc, hcc, d1, d2⟩ := hV
  have hmo : IntMulOk x pt := IntMulOk.of_right (intBits_le_64 (by omega) (by omega))
  have e1 : lamParams (lam 1) = Arguments.mk _ _ _ _ _ _ _ := rfl
  have e2 : lamBody (lam 1) = PySem.Expr.Call _ _ _ _ := rfl
  have e3 : lamScope (lam 1) = Scope.mk _ _ _ _ _ := rfl
  rw [e0, e1, e2, e3] at hm
  refine wpAny_call ?_
  refine' kla_code B F X₀ N T (Around.frames_deeper B.stack) hf hke hm (codeRec_news N hcc d1 d2) (by show A.depth + 1 < _; omega) ?k9 ?kB ?_ ?c2 ?c3 ?c4 ?c5
  (case k9 => exact rfl); (case c5 => decide); (case kB => exact locs rfl); (case c2 => exact rfl); (case c3 => exact rfl); (case c4 => exact rfl)
  intro g' L' h' FG' F' N' B' X' T'; (try dsimp only); (try k_fold)
  k_steps
  exact h _ _ (by assumption) (by assumption)
set_option maxRecDepth 100000 in
set_option maxHeartbeats 1000000 in
theorem c_key2 {k pt x y : Int} {f cd : Addr} {n : Nat} {tx ty : Tok} (B : Below A base outer h₀) (F : Fr h₀ L s.heap m) (X₀ : (hd.heap_39 w.params).In h₀) (N : News h₀ L s.heap news) (T : Top p loose mean mg mb h₀) (hf : env.frame = some L) (hke : env.scope.kind = .function)
   (hroom : A.depth + 10 < recursionLimit) (hV : ViewIn news f k pt) (e0 : lamIdx k = 2) (hC : (cd, listOf #[.int x tx, .int y ty] n) ∈ news) (hp : 0 ≤ pt ∧ pt ≤ 256)
   (h : ∀ h' tk, Fr h₀ L h' m → News h₀ L h' news → Q (.bool (decide ((x * pt).fmod 512 = 0))) { s with heap := h', toks := tk }) :
   wpAny (model PySem.Challenge.rw_pe0101_01.row.prog w) (A.deeper env) (call (.ref f) [.ref cd] []) Q E s := by
  revert X₀
  k_fill
  intro X₀
  obtain ⟨c, co, tp, c', oc, vs, t, ctv, pm, hm, hcm, dc, hcc, d1, d2⟩ := hV
  have hmo : IntMulOk x pt := IntMulOk.of_right (intBits_le_64 (by omega) (by omega))
  have e1 : lamParams (lam 2) = Arguments.mk _ _ _ _ _ _ _ := rfl
  have e2 : lamBody (lam 2) = PySem.Expr.Call _ _ _ _ := rfl
  have e3 : lamScope (lam 2) = Scope.mk _ _ _ _ _ := rfl
  rw [e0, e1, e2, e3] at hm
  refine wpAny_call ?_
  refine' kla_code B F X₀ N T (Around.frames_deeper B.stack) hf hke hm (codeRec_news N hcc d1 d2) (by show A.depth + 1 < _; omega) ?k9 ?kB ?_ ?c2 ?c3 ?c4 ?c5
  (case k9 => exact rfl); (case c5 => decide); (case kB => exact locs rfl); (case c2 => exact rfl); (case c3 => exact rfl); (case c4 => exact rfl)
  intro g' L' h' FG' F' N' B' X' T'; (try dsimp only); (try k_fold)
  k_steps
  exact h _ _ (by assumption) (by assumption)
/-- what a judge's lambda says of a value -/
def viewB (k pt x : Int) : Bool := if k = 0 then decide ((x * pt).fmod 512 < 256) else if k = 1 then decide (256 ≤ (x * pt).fmod 512) else decide ((x * pt).fmod 512 = 0)
theorem c_key {k pt x y : Int} {f cd : Addr} {n : Nat} {tx ty : Tok} (B : Below A base outer h₀) (F : Fr h₀ L s.heap m) (X₀ : (hd.heap_39 w.params).In h₀) (N : News h₀ L s.heap news) (T : Top p loose mean mg mb h₀) (hf : env.frame = some L) (hke : env.scope.kind = .function)
   (hroom : A.depth + 10 < recursionLimit) (hV : ViewIn news f k pt) (hC : (cd, listOf #[.int x tx, .int y ty] n) ∈ news) (hp : 0 ≤ pt ∧ pt ≤ 256)
   (h : ∀ h' tk, Fr h₀ L h' m → News h₀ L h' news → Q (.bool (viewB k pt x)) { s with heap := h', toks := tk }) :
   wpAny (model PySem.Challenge.rw_pe0101_01.row.prog w) (A.deeper env) (call (.ref f) [.ref cd] []) Q E s := by
  by_cases h0 : k = 0
  · exact c_key0 B F X₀ N T hf hke hroom hV (by simp [lamIdx, h0]) hC hp (by simpa [viewB, h0] using h)
  · by_cases h1 : k = 1
    · exact c_key1 B F X₀ N T hf hke hroom hV (by simp [lamIdx, h1]) hC hp (by simpa [viewB, h1] using h)
    · exact c_key2 B F X₀ N T hf hke hroom hV (by simp [lamIdx, h0, h1]) hC hp (by simpa [viewB, h0, h1] using h)
end
end Mine
end PartB4

section PartB5
open PySem PySem.W PyProof.Rows
namespace Mine
local macro_rules | `(tactic| k_mem) => `(tactic| with_reducible assumption)
def scopeOf : Stmt → Scope
  | .FunctionDef _ _ _ _ _ _ s _ _ _ => s
  | _ => default
def whileIn : Stmt → Stmt
  | .If _ _ [w] _ => w
  | s => s
def wTest : Stmt → PySem.Expr
  | .While t _ _ _ => t
  | _ => default
def wBody : Stmt → List Stmt
  | .While _ b _ _ => b
  | _ => []
def keyWhile (i : Nat) : Stmt := whileIn ((bodyOf (topStmt i)).getD 2 default)
def cardD (c : Int × Int) : Dat := .list [.int c.1, .int c.2]
theorem DatAll.card {news : List (Addr × Obj)} {vs : List Value} {cs : List (Int × Int)} (h : DatAll news vs (cs.map cardD)) {j : Nat} {c : Int × Int} (hc : cs[j]? = some c) :
    ∃ a n tx ty, vs[j]? = some (.ref a) ∧ (a, listOf #[.int c.1 tx, .int c.2 ty] n) ∈ news := by
  have hj : j < (cs.map cardD).length := by
    rw [List.length_map]; exact (List.getElem?_eq_some_iff.mp hc).1
  obtain ⟨v, hv, hd⟩ := h.get hj
  have e : (cs.map cardD)[j] = cardD c := by
    have := (List.getElem?_eq_some_iff.mp hc).2
    simp [this]
  rw [e] at hd
  obtain ⟨a, n, tx, ty, rfl, hm⟩ := card_inv hd
  exact ⟨a, n, tx, ty, hv, hm⟩
/-- where the walk is to stop -/
def Stop {α : Type} (P : α → Shared → Prop) (a : α) (s : Shared) : Prop := P a s
theorem wpAny_stop {α : Type} {M : Model} {A : Around} {t : Sem α} {Q : α → Shared → Prop} {E : Value → Shared → Prop} {s : Shared} (h : wpAny M A t (Stop Q) E s) : wpAny M A t Q E s := h
theorem b2i_lt {a b : Bool} : b2i a < b2i b ↔ (a = false ∧ b = true) := by cases a <;> cases b <;> decide
local macro_rules | `(tactic| walk_at "eval Name") => `(tactic| (k_here; k_dflt (refine' ld ?F ?v ?_; (case F => k_asm); (case v => first | exact rfl | assumption); k_whole)))
local macro_rules | `(tactic| walk_at "callWith ref") => `(tactic| (k_here; k_dflt (refine' callWith_F ?k1 ?_; (case k1 => exact FnAt.of (by k_asm) (by with_reducible assumption)); k_whole)))
local macro_rules | `(tactic| walk_at "FnAt") => `(tactic| (k_dflt (exact FnAt.of (by k_asm) (by with_reducible assumption))))
local macro_rules | `(tactic| walk_at "subscriptTail") => `(tactic| (k_here; (with_reducible show wpAny _ _ (subscriptTail _ _ (Value.ref _) (Value.int _ _)) _ _ _); (with_unfolding_all refine' my_item ?k1 ?k2 ?k3 ?k4 ?k5 ?_ ?k6; (case k1 => k_asm); (case k2 => k_mem); (case k3 => with_reducible assumption); (case k4 => with_reducible assumption); (case k5 => with_reducible assumption); (case k6 => with_unfolding_all rfl); k_whole)))
local macro_rules | `(tactic| walk_at "call ref") => `(tactic| (k_here; k_dflt (refine' c_key ?B ?F ?X ?N ?T ?hf ?hk ?r ?V ?C ?p ?_; (case B => k_asm); (case F => k_asm); (case X => k_asm); (case N => k_asm); (case T => k_asm); (case hf => rfl); (case hk => rfl); (case r => ((try simp only [depth_deeper]); omega)); (case V => with_reducible assumption); (case C => with_reducible assumption); (case p => with_reducible assumption); k_whole); intro h' tk' F' N'))
section
variable {w : World} {A : Around} {base h₀ : Heap} {outer : List Env} {env : Env} {L : Addr} {s : Shared} {m mg mb : Str → Option Value} {news : List (Addr × Obj)} {p : Program} {loose : List Str} {mean : ExcName → Option Value} {Q : Value → Shared → Prop} {E : Value → Shared → Prop}
set_option maxRecDepth 100000 in
set_option maxHeartbeats 1000000 in
theorem bl_loop {r lo0 hi0 k pt : Int} {xb : Bool} {a f : Addr} {vs : List Value} {n : Nat} {cs : List (Int × Int)} {Qc : Flow → Shared → Prop} (B : Below A base outer h₀) (X₀ : (hd.heap_39 w.params).In h₀) (T : Top p loose mean mg mb h₀)
   (hroom : A.depth + 15 < recursionLimit) (hT : (a, listOf vs.toArray n) ∈ news) (hD : DatAll news vs (cs.map cardD)) (hV : ViewIn news f k pt) (hp : 0 ≤ pt ∧ pt ≤ 256) (h0 : 0 ≤ lo0) (hsz : (cs.length : Int) < 2 ^ 62) (hle : hi0 ≤ cs.length)
   (hlt : ∀ (j : Nat) c, lo0 ≤ j → (j : Int) < r → cs[j]? = some c → viewB k pt c.1 = false ∧ xb = true)
   (hge : ∀ (j : Nat) c, r ≤ j → (j : Int) < hi0 → cs[j]? = some c → ¬ (viewB k pt c.1 = false ∧ xb = true))
   (hQ : ∀ m₁ h tk t, m₁ (Str.ofString "lo") = some (.int r t) → Fr h₀ L h m₁ → News h₀ L h news → Qc .next { s with heap := h, toks := tk }) :
   ∀ (d : Nat) (lo hi : Int) m₁ h tk t1 t2, Fr h₀ L h m₁ → News h₀ L h news → hi - lo ≤ d → lo0 ≤ lo → lo ≤ r → r ≤ hi → hi ≤ hi0 →
     m₁ (Str.ofString "a") = some (.ref a) → m₁ (Str.ofString "x") = some (.bool xb) → m₁ (Str.ofString "key") = some (.ref f) → m₁ (Str.ofString "lo") = some (.int lo t1) → m₁ (Str.ofString "hi") = some (.int hi t2) →
     WhlRest PySem.Challenge.rw_pe0101_01.row.prog w (A.deeper (envOf (Str.ofString "bisect_left") (scopeOf (topStmt 4)) L 50 (.ref 49))) (fun _ _ => False) (envOf (Str.ofString "bisect_left") (scopeOf (topStmt 4)) L 50 (.ref 49)) (wTest (keyWhile 4)) (wBody (keyWhile 4)) [] Qc d { s with heap := h, toks := tk } := by
  revert X₀
  k_fill
  intro X₀ d
  have e1 : scopeOf (topStmt 4) = Scope.mk _ _ _ _ _ := rfl
  have e2 : wTest (keyWhile 4) = PySem.Expr.Compare _ _ _ _ := rfl
  have e3 : wBody (keyWhile 4) = [_, _] := rfl
  have hVf := hV
  obtain ⟨c, co, tp, c', oc, vs', t, ctv, pm, hm, _⟩ := hVf
  have fin : ∀ (k' : Nat) (lo hi : Int) m₁ h tk t1 t2, ¬ lo < hi → lo ≤ r → r ≤ hi → m₁ (Str.ofString "lo") = some (.int lo t1) → m₁ (Str.ofString "hi") = some (.int hi t2) → Fr h₀ L h m₁ → News h₀ L h news →
      WhlRest PySem.Challenge.rw_pe0101_01.row.prog w (A.deeper (envOf (Str.ofString "bisect_left") (scopeOf (topStmt 4)) L 50 (.ref 49))) (fun _ _ => False) (envOf (Str.ofString "bisect_left") (scopeOf (topStmt 4)) L 50 (.ref 49)) (wTest (keyWhile 4)) (wBody (keyWhile 4)) [] Qc (k' + 1) { s with heap := h, toks := tk } := by
    intro k' lo hi m₁ h tk t1 t2 hlh hl2 hl3 ml mh F N
    rw [e1, e2, e3]
    refine whl_turn PassesOwn.never ?_
    k_steps
    refine WhlIf.no (decide_eq_false hlh) ?_
    k_steps
    obtain rfl : lo = r := by omega
    exact hQ _ _ _ _ ml (by assumption) (by assumption)
  rw [e1, e2, e3] at fin ⊢
  induction d with
  | zero =>
    intro lo hi m₁ h tk t1 t2 F N hd hl1 hl2 hl3 hl4 ma mx mk ml mh
    exact fin 0 lo hi m₁ h tk t1 t2 (by omega) hl2 hl3 ml mh F N
  | succ d ih =>
    intro lo hi m₁ h tk t1 t2 F N hd hl1 hl2 hl3 hl4 ma mx mk ml mh
    by_cases hlh : lo < hi
    · have hfd := Int.fdiv_eq_ediv_of_nonneg (lo + hi) (show (0:Int) ≤ 2 by decide)
      have b1 : lo ≤ (lo + hi).fdiv 2 := by omega
      have b2 : (lo + hi).fdiv 2 < hi := by omega
      have b3 : 0 ≤ (lo + hi).fdiv 2 := by omega
      have b4 : (lo + hi).fdiv 2 < 2 ^ 63 := by omega
      obtain ⟨cc, hcc⟩ : ∃ c, cs[((lo + hi).fdiv 2).toNat]? = some c := ⟨_, List.getElem?_eq_getElem (by omega)⟩
      obtain ⟨cd, n', tx, ty, hv, hcm⟩ := DatAll.card hD hcc
      refine whl_turn PassesOwn.never ?_
      k_steps
      refine WhlIf.yes (decide_eq_true hlh) (wpAny_stop ?_)
      k_steps
      · rename_i hb hh FF NN
        have hb' := b2i_lt.mp hb
        have hmr : (lo + hi).fdiv 2 < r := by
          refine Int.not_le.mp fun q => ?_
          exact hge ((lo + hi).fdiv 2).toNat cc (by omega) (by omega) hcc hb'
        exact ih ((lo + hi).fdiv 2 + 1) hi _ hh _ _ t2 FF NN (by omega) (by omega) (by omega) hl3 hl4 ma mx mk rfl mh
      · rename_i hb hh FF NN
        have hmr : r ≤ (lo + hi).fdiv 2 := by
          refine Int.not_lt.mp fun q => ?_
          exact hb (b2i_lt.mpr (hlt ((lo + hi).fdiv 2).toNat cc (by omega) (by omega) hcc))
        exact ih lo ((lo + hi).fdiv 2) _ hh _ t1 _ FF NN (by omega) hl1 hl2 hmr (by omega) ma mx mk ml rfl
    · exact fin d lo hi m₁ h tk t1 t2 hlh hl2 hl3 ml mh F N
end
end Mine
end PartB5

section PartB6
open PySem PySem.W PyProof.Rows
namespace Mine
local macro_rules | `(tactic| k_mem) => `(tactic| with_reducible assumption)
theorem my_len {prog : Program} {w : World} {A : Around} {E : Value → Shared → Prop} {s : Shared} {h₀ : Heap} {L l : Addr} {news : List (Addr × Obj)} {vs : List Value} {n len : Nat} {Q : Value → Shared → Prop}
    (N : News h₀ L s.heap news) (hl : (l, listOf vs.toArray n) ∈ news) (e : vs.length = len) (hb : (len : Int) < 2 ^ 62) (h : ∀ t tk, Q (.int len t) { s with toks := tk }) : wpAny (model prog w) A (call (.builtin "len") [.ref l]) Q E s := by
  have hL : s.heap.IsList l vs.toArray := ⟨_, N.get hl, rfl, n, rfl⟩
  have hs : vs.toArray.size = len := by simp [e]
  refine len_list hL (by rw [hs]; omega) ?_
  rw [hs]; exact h _ _
local macro_rules | `(tactic| walk_at "call builtin:len") => `(tactic| (k_here; k_dflt (refine' my_len ?N ?l ?e ?b ?_; (case N => k_asm); (case l => with_reducible assumption); (case e => with_reducible assumption); (case b => with_reducible assumption); k_whole); intro t' tk'))
local macro_rules | `(tactic| walk_at "eval Name") => `(tactic| (k_here; k_dflt (refine' ld ?F ?v ?_; (case F => k_asm); (case v => first | exact rfl | assumption); k_whole)))
local macro_rules | `(tactic| walk_at "exec While Compare cons nil") => `(tactic| (k_here; k_dflt (refine' whl_start _ (bl_loop ?B ?X ?T ?r ?hT ?hD ?hV ?hp ?h0 ?sz ?le ?lt ?ge ?_ _ _ _ _ _ _ _ _ ?F ?N ?d ?l1 ?l2 ?l3 ?l4 ?ma ?mx ?mk ?ml ?mh); (case F => k_asm); (case N => k_asm); (case B => k_asm); (case X => k_asm); (case T => k_asm); (case ma => exact rfl); (case mx => exact rfl); (case mk => exact rfl); (case ml => exact rfl); (case mh => exact rfl); (case hT => with_reducible assumption); (case hD => with_reducible assumption); (case hV => with_reducible assumption); (case hp => with_reducible assumption); (case lt => with_reducible assumption); (case ge => with_reducible assumption); (case d => exact Int.self_le_toNat _); (case l1 => exact Int.le_refl _); (case l2 => with_reducible assumption); (case l3 => with_reducible assumption); (case l4 => exact Int.le_refl _); (case h0 => with_reducible assumption); (case sz => with_reducible assumption); (case le => with_reducible assumption); (case r => ((try simp only [depth_deeper]); omega)); k_whole); intro m' h' tk' t' ml' F' N'; (try k_fold)))
section
variable {w : World} {A : Around} {base h₀ : Heap} {outer : List Env} {env : Env} {L : Addr} {s : Shared} {m mg mb : Str → Option Value} {news : List (Addr × Obj)} {p : Program} {loose : List Str} {mean : ExcName → Option Value} {Q : Value → Shared → Prop} {E : Value → Shared → Prop}
set_option maxRecDepth 100000 in
set_option maxHeartbeats 1000000 in
theorem c_bleft {lo hi r k pt : Int} {xb : Bool} {a f : Addr} {tl : Tok} {hiV : Value} {vs : List Value} {n : Nat} {cs : List (Int × Int)} (B : Below A base outer h₀) (F : Fr h₀ L s.heap m) (X₀ : (hd.heap_39 w.params).In h₀) (N : News h₀ L s.heap news) (T : Top p loose mean mg mb h₀) (hf : env.frame = some L) (hke : env.scope.kind = .function)
   (hroom : A.depth + 20 < recursionLimit) (hT : (a, listOf vs.toArray n) ∈ news) (hD : DatAll news vs (cs.map cardD)) (hV : ViewIn news f k pt) (hp : 0 ≤ pt ∧ pt ≤ 256)
   (hh : (hiV = .none ∧ hi = cs.length) ∨ ∃ th, hiV = .int hi th) (h0 : 0 ≤ lo) (hsz : (cs.length : Int) < 2 ^ 62) (hle : hi ≤ cs.length) (hlr : lo ≤ r) (hrh : r ≤ hi)
   (hlt : ∀ (j : Nat) c, lo ≤ j → (j : Int) < r → cs[j]? = some c → viewB k pt c.1 = false ∧ xb = true)
   (hge : ∀ (j : Nat) c, r ≤ j → (j : Int) < hi → cs[j]? = some c → ¬ (viewB k pt c.1 = false ∧ xb = true))
   (h : ∀ h' tk t, Fr h₀ L h' m → News h₀ L h' news → Q (.int r t) { s with heap := h', toks := tk }) :
   wpAny (model PySem.Challenge.rw_pe0101_01.row.prog w) (A.deeper env) (call (.ref 50) [.ref a, .bool xb, .int lo tl, hiV] [(Str.ofString "key", .ref f)]) Q E s := by
  revert X₀
  k_fill
  intro X₀
  have hlen := hD.length
  rw [List.length_map] at hlen
  rcases hh with ⟨rfl, hhi⟩ | ⟨th, rfl⟩
  · subst hhi
    refine wpAny_call ?_
    refine' code_def B F X₀ N T (Around.frames_deeper B.stack) hf hke ?k6 ?k7 (by show A.depth + 1 < _; omega) ?k9 ?kB ?_ ?c2 ?c3 ?c4 ?c5
    (case k6 => k_is); (case k7 => k_is);  (case k9 => first | exact BindsTo.of_eq rfl | exact binds_K (by k_in) rfl (by k_is) rfl rfl rfl | fail "k_enter: no rule for these arguments"); (case c5 => decide); (case kB => exact locs rfl); (case c2 => exact rfl); (case c3 => exact rfl); (case c4 => exact rfl)
    intro g' L' h' FG' F' N' B' X' T'; (try dsimp only)
    refine wpAny_mono (E := fun _ _ => False) ?_ (fun _ _ h => h) (fun _ _ h => h.elim)
    (try k_fold)
    k_steps
    exact h _ _ _ (by assumption) (by assumption)
  · refine wpAny_call ?_
    refine' code_def B F X₀ N T (Around.frames_deeper B.stack) hf hke ?k6 ?k7 (by show A.depth + 1 < _; omega) ?k9 ?kB ?_ ?c2 ?c3 ?c4 ?c5
    (case k6 => k_is); (case k7 => k_is);  (case k9 => first | exact BindsTo.of_eq rfl | exact binds_K (by k_in) rfl (by k_is) rfl rfl rfl | fail "k_enter: no rule for these arguments"); (case c5 => decide); (case kB => exact locs rfl); (case c2 => exact rfl); (case c3 => exact rfl); (case c4 => exact rfl)
    intro g' L' h' FG' F' N' B' X' T'; (try dsimp only)
    refine wpAny_mono (E := fun _ _ => False) ?_ (fun _ _ h => h) (fun _ _ h => h.elim)
    (try k_fold)
    k_steps
    exact h _ _ _ (by assumption) (by assumption)
end
end Mine
end PartB6

section PartB7
open PySem PySem.W PyProof.Rows
namespace Mine
local macro_rules | `(tactic| k_mem) => `(tactic| with_reducible assumption)
local macro_rules | `(tactic| walk_at "eval Name") => `(tactic| (k_here; k_dflt (refine' ld ?F ?v ?_; (case F => k_asm); (case v => first | exact rfl | assumption); k_whole)))
local macro_rules | `(tactic| walk_at "callWith ref") => `(tactic| (k_here; k_dflt (refine' callWith_F ?k1 ?_; (case k1 => exact FnAt.of (by k_asm) (by with_reducible assumption)); k_whole)))
local macro_rules | `(tactic| walk_at "FnAt") => `(tactic| (k_dflt (exact FnAt.of (by k_asm) (by with_reducible assumption))))
local macro_rules | `(tactic| walk_at "subscriptTail") => `(tactic| (k_here; (with_reducible show wpAny _ _ (subscriptTail _ _ (Value.ref _) (Value.int _ _)) _ _ _); (with_unfolding_all refine' my_item ?k1 ?k2 ?k3 ?k4 ?k5 ?_ ?k6; (case k1 => k_asm); (case k2 => k_mem); (case k3 => with_reducible assumption); (case k4 => with_reducible assumption); (case k5 => with_reducible assumption); (case k6 => with_unfolding_all rfl); k_whole)))
local macro_rules | `(tactic| walk_at "call ref") => `(tactic| (k_here; k_dflt (refine' c_key ?B ?F ?X ?N ?T ?hf ?hk ?r ?V ?C ?p ?_; (case B => k_asm); (case F => k_asm); (case X => k_asm); (case N => k_asm); (case T => k_asm); (case hf => rfl); (case hk => rfl); (case r => ((try simp only [depth_deeper]); omega)); (case V => with_reducible assumption); (case C => with_reducible assumption); (case p => with_reducible assumption); k_whole); intro h' tk' F' N'))
section
variable {w : World} {A : Around} {base h₀ : Heap} {outer : List Env} {env : Env} {L : Addr} {s : Shared} {m mg mb : Str → Option Value} {news : List (Addr × Obj)} {p : Program} {loose : List Str} {mean : ExcName → Option Value} {Q : Value → Shared → Prop} {E : Value → Shared → Prop}
set_option maxRecDepth 100000 in
set_option maxHeartbeats 1000000 in
theorem br_loop {r lo0 hi0 k pt : Int} {xb : Bool} {a f : Addr} {vs : List Value} {n : Nat} {cs : List (Int × Int)} {Qc : Flow → Shared → Prop} (B : Below A base outer h₀) (X₀ : (hd.heap_39 w.params).In h₀) (T : Top p loose mean mg mb h₀)
   (hroom : A.depth + 15 < recursionLimit) (hT : (a, listOf vs.toArray n) ∈ news) (hD : DatAll news vs (cs.map cardD)) (hV : ViewIn news f k pt) (hp : 0 ≤ pt ∧ pt ≤ 256) (h0 : 0 ≤ lo0) (hsz : (cs.length : Int) < 2 ^ 62) (hle : hi0 ≤ cs.length)
   (hlt : ∀ (j : Nat) c, lo0 ≤ j → (j : Int) < r → cs[j]? = some c → ¬ (xb = false ∧ viewB k pt c.1 = true))
   (hge : ∀ (j : Nat) c, r ≤ j → (j : Int) < hi0 → cs[j]? = some c → xb = false ∧ viewB k pt c.1 = true)
   (hQ : ∀ m₁ h tk t, m₁ (Str.ofString "lo") = some (.int r t) → Fr h₀ L h m₁ → News h₀ L h news → Qc .next { s with heap := h, toks := tk }) :
   ∀ (d : Nat) (lo hi : Int) m₁ h tk t1 t2, Fr h₀ L h m₁ → News h₀ L h news → hi - lo ≤ d → lo0 ≤ lo → lo ≤ r → r ≤ hi → hi ≤ hi0 →
     m₁ (Str.ofString "a") = some (.ref a) → m₁ (Str.ofString "x") = some (.bool xb) → m₁ (Str.ofString "key") = some (.ref f) → m₁ (Str.ofString "lo") = some (.int lo t1) → m₁ (Str.ofString "hi") = some (.int hi t2) →
     WhlRest PySem.Challenge.rw_pe0101_01.row.prog w (A.deeper (envOf (Str.ofString "bisect_right") (scopeOf (topStmt 2)) L 32 (.ref 31))) (fun _ _ => False) (envOf (Str.ofString "bisect_right") (scopeOf (topStmt 2)) L 32 (.ref 31)) (wTest (keyWhile 2)) (wBody (keyWhile 2)) [] Qc d { s with heap := h, toks := tk } := by
  revert X₀
  k_fill
  intro X₀ d
  have e1 : scopeOf (topStmt 2) = Scope.mk _ _ _ _ _ := rfl
  have e2 : wTest (keyWhile 2) = PySem.Expr.Compare _ _ _ _ := rfl
  have e3 : wBody (keyWhile 2) = [_, _] := rfl
  have hVf := hV
  obtain ⟨c, co, tp, c', oc, vs', t, ctv, pm, hm, _⟩ := hVf
  have fin : ∀ (k' : Nat) (lo hi : Int) m₁ h tk t1 t2, ¬ lo < hi → lo ≤ r → r ≤ hi → m₁ (Str.ofString "lo") = some (.int lo t1) → m₁ (Str.ofString "hi") = some (.int hi t2) → Fr h₀ L h m₁ → News h₀ L h news →
      WhlRest PySem.Challenge.rw_pe0101_01.row.prog w (A.deeper (envOf (Str.ofString "bisect_right") (scopeOf (topStmt 2)) L 32 (.ref 31))) (fun _ _ => False) (envOf (Str.ofString "bisect_right") (scopeOf (topStmt 2)) L 32 (.ref 31)) (wTest (keyWhile 2)) (wBody (keyWhile 2)) [] Qc (k' + 1) { s with heap := h, toks := tk } := by
    intro k' lo hi m₁ h tk t1 t2 hlh hl2 hl3 ml mh F N
    rw [e1, e2, e3]
    refine whl_turn PassesOwn.never ?_
    k_steps
    refine WhlIf.no (decide_eq_false hlh) ?_
    k_steps
    obtain rfl : lo = r := by omega
    exact hQ _ _ _ _ ml (by assumption) (by assumption)
  rw [e1, e2, e3] at fin ⊢
  induction d with
  | zero =>
    intro lo hi m₁ h tk t1 t2 F N hd hl1 hl2 hl3 hl4 ma mx mk ml mh
    exact fin 0 lo hi m₁ h tk t1 t2 (by omega) hl2 hl3 ml mh F N
  | succ d ih =>
    intro lo hi m₁ h tk t1 t2 F N hd hl1 hl2 hl3 hl4 ma mx mk ml mh
    by_cases hlh : lo < hi
    · have hfd := Int.fdiv_eq_ediv_of_nonneg (lo + hi) (show (0:Int) ≤ 2 by decide)
      have b1 : lo ≤ (lo + hi).fdiv 2 := by omega
      have b2 : (lo + hi).fdiv 2 < hi := by omega
      have b3 : 0 ≤ (lo + hi).fdiv 2 := by omega
      have b4 : (lo + hi).fdiv 2 < 2 ^ 63 := by omega
      obtain ⟨cc, hcc⟩ : ∃ c, cs[((lo + hi).fdiv 2).toNat]? = some c := ⟨_, List.getElem?_eq_getElem (by omega)⟩
      obtain ⟨cd, n', tx, ty, hv, hcm⟩ := DatAll.card hD hcc
      refine whl_turn PassesOwn.never ?_
      k_steps
      refine WhlIf.yes (decide_eq_true hlh) (wpAny_stop ?_)
      k_steps
      · rename_i hb hh FF NN
        have hmr : r ≤ (lo + hi).fdiv 2 := by
          refine Int.not_lt.mp fun q => ?_
          exact hlt ((lo + hi).fdiv 2).toNat cc (by omega) (by omega) hcc (b2i_lt.mp hb)
        exact ih lo ((lo + hi).fdiv 2) _ hh _ t1 _ FF NN (by omega) hl1 hl2 hmr (by omega) ma mx mk ml rfl
      · rename_i hb hh FF NN
        have hmr : (lo + hi).fdiv 2 < r := by
          refine Int.not_le.mp fun q => ?_
          exact hb (b2i_lt.mpr (hge ((lo + hi).fdiv 2).toNat cc (by omega) (by omega) hcc))
        exact ih ((lo + hi).fdiv 2 + 1) hi _ hh _ _ t2 FF NN (by omega) (by omega) (by omega) hl3 hl4 ma mx mk rfl mh
    · exact fin d lo hi m₁ h tk t1 t2 hlh hl2 hl3 ml mh F N
local macro_rules | `(tactic| walk_at "call builtin:len") => `(tactic| (k_here; k_dflt (refine' my_len ?N ?l ?e ?b ?_; (case N => k_asm); (case l => with_reducible assumption); (case e => with_reducible assumption); (case b => with_reducible assumption); k_whole); intro t' tk'))
local macro_rules | `(tactic| walk_at "exec While Compare cons nil") => `(tactic| (k_here; k_dflt (refine' whl_start _ (br_loop ?B ?X ?T ?r ?hT ?hD ?hV ?hp ?h0 ?sz ?le ?lt ?ge ?_ _ _ _ _ _ _ _ _ ?F ?N ?d ?l1 ?l2 ?l3 ?l4 ?ma ?mx ?mk ?ml ?mh); (case F => k_asm); (case N => k_asm); (case B => k_asm); (case X => k_asm); (case T => k_asm); (case ma => exact rfl); (case mx => exact rfl); (case mk => exact rfl); (case ml => exact rfl); (case mh => exact rfl); (case hT => with_reducible assumption); (case hD => with_reducible assumption); (case hV => with_reducible assumption); (case hp => with_reducible assumption); (case lt => with_reducible assumption); (case ge => with_reducible assumption); (case d => exact Int.self_le_toNat _); (case l1 => exact Int.le_refl _); (case l2 => with_reducible assumption); (case l3 => with_reducible assumption); (case l4 => exact Int.le_refl _); (case h0 => with_reducible assumption); (case sz => with_reducible assumption); (case le => with_reducible assumption); (case r => ((try simp only [depth_deeper]); omega)); k_whole); intro m' h' tk' t' ml' F' N'; (try k_fold)))
set_option maxRecDepth 100000 in
set_option maxHeartbeats 1000000 in
theorem c_bright {lo hi r k pt : Int} {xb : Bool} {a f : Addr} {tl : Tok} {hiV : Value} {vs : List Value} {n : Nat} {cs : List (Int × Int)} (B : Below A base outer h₀) (F : Fr h₀ L s.heap m) (X₀ : (hd.heap_39 w.params).In h₀) (N : News h₀ L s.heap news) (T : Top p loose mean mg mb h₀) (hf : env.frame = some L) (hke : env.scope.kind = .function)
   (hroom : A.depth + 20 < recursionLimit) (hT : (a, listOf vs.toArray n) ∈ news) (hD : DatAll news vs (cs.map cardD)) (hV : ViewIn news f k pt) (hp : 0 ≤ pt ∧ pt ≤ 256)
   (hh : (hiV = .none ∧ hi = cs.length) ∨ ∃ th, hiV = .int hi th) (h0 : 0 ≤ lo) (hsz : (cs.length : Int) < 2 ^ 62) (hle : hi ≤ cs.length) (hlr : lo ≤ r) (hrh : r ≤ hi)
   (hlt : ∀ (j : Nat) c, lo ≤ j → (j : Int) < r → cs[j]? = some c → ¬ (xb = false ∧ viewB k pt c.1 = true))
   (hge : ∀ (j : Nat) c, r ≤ j → (j : Int) < hi → cs[j]? = some c → xb = false ∧ viewB k pt c.1 = true)
   (h : ∀ h' tk t, Fr h₀ L h' m → News h₀ L h' news → Q (.int r t) { s with heap := h', toks := tk }) :
   wpAny (model PySem.Challenge.rw_pe0101_01.row.prog w) (A.deeper env) (call (.ref 32) [.ref a, .bool xb, .int lo tl, hiV] [(Str.ofString "key", .ref f)]) Q E s := by
  revert X₀
  k_fill
  intro X₀
  have hlen := hD.length
  rw [List.length_map] at hlen
  rcases hh with ⟨rfl, hhi⟩ | ⟨th, rfl⟩
  · subst hhi
    refine wpAny_call ?_
    refine' code_def B F X₀ N T (Around.frames_deeper B.stack) hf hke ?k6 ?k7 (by show A.depth + 1 < _; omega) ?k9 ?kB ?_ ?c2 ?c3 ?c4 ?c5
    (case k6 => k_is); (case k7 => k_is);  (case k9 => first | exact BindsTo.of_eq rfl | exact binds_K (by k_in) rfl (by k_is) rfl rfl rfl | fail "k_enter: no rule for these arguments"); (case c5 => decide); (case kB => exact locs rfl); (case c2 => exact rfl); (case c3 => exact rfl); (case c4 => exact rfl)
    intro g' L' h' FG' F' N' B' X' T'; (try dsimp only)
    refine wpAny_mono (E := fun _ _ => False) ?_ (fun _ _ h => h) (fun _ _ h => h.elim)
    (try k_fold)
    k_steps
    exact h _ _ _ (by assumption) (by assumption)
  · refine wpAny_call ?_
    refine' code_def B F X₀ N T (Around.frames_deeper B.stack) hf hke ?k6 ?k7 (by show A.depth + 1 < _; omega) ?k9 ?kB ?_ ?c2 ?c3 ?c4 ?c5
    (case k6 => k_is); (case k7 => k_is);  (case k9 => first | exact BindsTo.of_eq rfl | exact binds_K (by k_in) rfl (by k_is) rfl rfl rfl | fail "k_enter: no rule for these arguments"); (case c5 => decide); (case kB => exact locs rfl); (case c2 => exact rfl); (case c3 => exact rfl); (case c4 => exact rfl)
    intro g' L' h' FG' F' N' B' X' T'; (try dsimp only)
    refine wpAny_mono (E := fun _ _ => False) ?_ (fun _ _ h => h) (fun _ _ h => h.elim)
    (try k_fold)
    k_steps
    exact h _ _ _ (by assumption) (by assumption)
end
end Mine
end PartB7

section PartB8
open PySem PySem.W PyProof.Rows
namespace Mine
local macro_rules | `(tactic| k_mem) => `(tactic| with_reducible assumption)
local macro_rules | `(tactic| walk_at "callWith ref") => `(tactic| (k_here; k_dflt (refine' callWith_F ?k1 ?_; (case k1 => exact FnAt.of (by k_asm) (by with_reducible assumption)); k_whole)))
local macro_rules | `(tactic| walk_at "FnAt") => `(tactic| (k_dflt (exact FnAt.of (by k_asm) (by with_reducible assumption))))
local macro_rules | `(tactic| walk_at "call ref") => `(tactic| (k_here; k_dflt (refine' c_key ?B ?F ?X ?N ?T ?hf ?hk ?r ?V ?C ?p ?_; (case B => k_asm); (case F => k_asm); (case X => k_asm); (case N => k_asm); (case T => k_asm); (case hf => rfl); (case hk => rfl); (case r => ((try simp only [depth_deeper]); omega)); (case V => with_reducible assumption); (case C => with_reducible assumption); (case p => with_reducible assumption); k_whole); intro h' tk' F' N'))
local macro_rules | `(tactic| walk_at "call ref") => `(tactic| (k_here; k_dflt (refine' c_bleft ?B ?F ?X ?N ?T ?hf ?hk ?r ?hT ?hD ?hV ?hp ?hh ?h0 ?sz ?le ?lr ?rh ?lt ?ge ?_; (case B => k_asm); (case F => k_asm); (case X => k_asm); (case N => k_asm); (case T => k_asm); (case hf => rfl); (case hk => rfl); (case r => ((try simp only [depth_deeper]); omega)); (case hT => with_reducible assumption); (case hD => with_reducible assumption); (case hV => with_reducible assumption); (case hp => with_reducible assumption); (case lt => with_reducible assumption); (case ge => with_reducible assumption); (case hh => first | exact Or.inl ⟨rfl, rfl⟩ | exact Or.inr ⟨_, rfl⟩); (case h0 => with_reducible assumption); (case sz => with_reducible assumption); (case le => first | with_reducible assumption | exact Int.le_refl _); (case lr => with_reducible assumption); (case rh => with_reducible assumption); k_whole); intro h' tk' t' F' N'))
theorem my_insert {prog : Program} {w : World} {A : Around} {E : Value → Shared → Prop} {s : Shared} {h₀ : Heap} {L D : Addr} {m : Str → Option Value} {news : List (Addr × Obj)} {vs : List Value} {n : Nat} {x : Int} {u : Tok} {y : Value} {Q : Value → Shared → Prop}
    (F : Fr h₀ L s.heap m) (N : News h₀ L s.heap ((D, listOf vs.toArray n) :: news)) (hoff : ∀ q ∈ news, q.1 ≠ D) (h0 : 0 ≤ x) (hx : x ≤ vs.length) (hz : vs.length < 10000)
    (h : ∀ h', Fr h₀ L h' m → News h₀ L h' ((D, listOf (vs.take x.toNat ++ y :: vs.drop x.toNat).toArray (n + 1)) :: news) → Q .none { s with heap := h' }) :
    wpAny (model prog w) A (call (.builtin "list.insert") [.ref D, .int x u, y]) Q E s := by
  refine kl_insert (its := vs.toArray) (l := vs.take x.toNat ++ y :: vs.drop x.toNat) F N ?_ ?_ (.head hoff) (by rw [List.toList_toArray, sizeLine_eq]; omega) h
  · unfold Builtin.List.listFitsIndex
    simp only [Bool.and_eq_true, decide_eq_true_eq]
    omega
  · have e : (if x < 0 then (x + (vs.length : Int)).toNat else min x.toNat vs.length) = x.toNat := by
      rw [if_neg (by omega)]; omega
    delta kl_ins
    simp only [List.toList_toArray, e]
local macro_rules | `(tactic| walk_at "call builtin:list.insert") => `(tactic| (k_here; k_dflt (refine' my_insert ?F ?N ?o ?z1 ?z2 ?z3 ?_; (case F => k_asm); (case N => k_asm); (case o => with_reducible assumption); (case z1 => omega); (case z2 => omega); (case z3 => omega); k_whole); intro h' F' N'))
section
variable {w : World} {A : Around} {base h₀ : Heap} {outer : List Env} {env : Env} {L : Addr} {s : Shared} {m mg mb : Str → Option Value} {news : List (Addr × Obj)} {p : Program} {loose : List Str} {mean : ExcName → Option Value} {Q : Value → Shared → Prop} {E : Value → Shared → Prop}
set_option maxRecDepth 100000 in
set_option maxHeartbeats 1000000 in
theorem c_ileft {lo r k pt : Int} {c : Int × Int} {a f cd : Addr} {tl tx ty : Tok} {vs : List Value} {n nc : Nat} {cs : List (Int × Int)} (B : Below A base outer h₀) (F : Fr h₀ L s.heap m) (X₀ : (hd.heap_39 w.params).In h₀) (N : News h₀ L s.heap ((a, listOf vs.toArray n) :: news)) (T : Top p loose mean mg mb h₀) (hf : env.frame = some L) (hke : env.scope.kind = .function)
   (hroom : A.depth + 30 < recursionLimit) (hoff : ∀ q ∈ news, q.1 ≠ a) (hD : DatAll news vs (cs.map cardD)) (hC : (cd, listOf #[.int c.1 tx, .int c.2 ty] nc) ∈ news) (hV : ViewIn news f k pt) (hp : 0 ≤ pt ∧ pt ≤ 256)
   (h0 : 0 ≤ lo) (hsz : (cs.length : Int) < 10000) (hlr : lo ≤ r) (hrh : r ≤ cs.length)
   (hlt : ∀ (j : Nat) c', lo ≤ j → (j : Int) < r → cs[j]? = some c' → viewB k pt c'.1 = false ∧ viewB k pt c.1 = true)
   (hge : ∀ (j : Nat) c', r ≤ j → (j : Int) < cs.length → cs[j]? = some c' → ¬ (viewB k pt c'.1 = false ∧ viewB k pt c.1 = true))
   (h : ∀ h' tk n', Fr h₀ L h' m → News h₀ L h' ((a, listOf (vs.take r.toNat ++ .ref cd :: vs.drop r.toNat).toArray n') :: news) → Q .none { s with heap := h', toks := tk }) :
   wpAny (model PySem.Challenge.rw_pe0101_01.row.prog w) (A.deeper env) (call (.ref 41) [.ref a, .ref cd, .int lo tl] [(Str.ofString "key", .ref f)]) Q E s := by
  revert X₀
  k_fill
  intro X₀
  have hlen := hD.length
  rw [List.length_map] at hlen
  have sub : ∀ q ∈ news, q ∈ (a, listOf vs.toArray n) :: news := fun q hq => .tail _ hq
  have hD' := hD.mono sub
  have hV' := hV.mono sub
  have hT' : (a, listOf vs.toArray n) ∈ (a, listOf vs.toArray n) :: news := .head _
  have hC' := sub _ hC
  have hsz' : (cs.length : Int) < 2 ^ 62 := by omega
  have hVf := hV'
  obtain ⟨c1, co, tp, c', oc, vs', t, ctv, pm, hm, _⟩ := hVf
  refine wpAny_call ?_
  refine' code_def B F X₀ N T (Around.frames_deeper B.stack) hf hke ?k6 ?k7 (by show A.depth + 1 < _; omega) ?k9 ?kB ?_ ?c2 ?c3 ?c4 ?c5
  (case k6 => k_is); (case k7 => k_is);  (case k9 => first | exact BindsTo.of_eq rfl | exact binds_K (by k_in) rfl (by k_is) rfl rfl rfl | fail "k_enter: no rule for these arguments"); (case c5 => decide); (case kB => exact locs rfl); (case c2 => exact rfl); (case c3 => exact rfl); (case c4 => exact rfl)
  intro g' L' h' FG' F' N' B' X' T'; (try dsimp only)
  refine wpAny_mono (E := fun _ _ => False) ?_ (fun _ _ h => h) (fun _ _ h => h.elim)
  (try k_fold)
  k_steps
  exact h _ _ _ (by assumption) (by assumption)
end
end Mine
end PartB8

section PartB9
open PySem PySem.W PyProof.Rows
namespace Mine
local macro_rules | `(tactic| walk_at "pad0") => `(tactic| skip)
local macro_rules | `(tactic| k_mem) => `(tactic| with_reducible assumption)
local macro_rules | `(tactic| walk_at "callWith ref") => `(tactic| (k_here; k_dflt (refine' callWith_F ?k1 ?_; (case k1 => exact FnAt.of (by k_asm) (by with_reducible assumption)); k_whole)))
local macro_rules | `(tactic| walk_at "FnAt") => `(tactic| (k_dflt (exact FnAt.of (by k_asm) (by with_reducible assumption))))
local macro_rules | `(tactic| walk_at "call ref") => `(tactic| (k_here; k_dflt (refine' c_key ?B ?F ?X ?N ?T ?hf ?hk ?r ?V ?C ?p ?_; (case B => k_asm); (case F => k_asm); (case X => k_asm); (case N => k_asm); (case T => k_asm); (case hf => rfl); (case hk => rfl); (case r => ((try simp only [depth_deeper]); omega)); (case V => with_reducible assumption); (case C => with_reducible assumption); (case p => with_reducible assumption); k_whole); intro h' tk' F' N'))
local macro_rules | `(tactic| walk_at "call ref") => `(tactic| (k_here; k_dflt (refine' c_bright ?B ?F ?X ?N ?T ?hf ?hk ?r ?hT ?hD ?hV ?hp ?hh ?h0 ?sz ?le ?lr ?rh ?lt ?ge ?_; (case B => k_asm); (case F => k_asm); (case X => k_asm); (case N => k_asm); (case T => k_asm); (case hf => rfl); (case hk => rfl); (case r => ((try simp only [depth_deeper]); omega)); (case hT => with_reducible assumption); (case hD => with_reducible assumption); (case hV => with_reducible assumption); (case hp => with_reducible assumption); (case lt => with_reducible assumption); (case ge => with_reducible assumption); (case hh => first | exact Or.inl ⟨rfl, rfl⟩ | exact Or.inr ⟨_, rfl⟩); (case h0 => with_reducible assumption); (case sz => with_reducible assumption); (case le => first | with_reducible assumption | exact Int.le_refl _); (case lr => with_reducible assumption); (case rh => with_reducible assumption); k_whole); intro h' tk' t' F' N'))
local macro_rules | `(tactic| walk_at "call builtin:list.insert") => `(tactic| (k_here; k_dflt (refine' my_insert ?F ?N ?o ?z1 ?z2 ?z3 ?_; (case F => k_asm); (case N => k_asm); (case o => with_reducible assumption); (case z1 => omega); (case z2 => omega); (case z3 => omega); k_whole); intro h' F' N'))
section
variable {w : World} {A : Around} {base h₀ : Heap} {outer : List Env} {env : Env} {L : Addr} {s : Shared} {m mg mb : Str → Option Value} {news : List (Addr × Obj)} {p : Program} {loose : List Str} {mean : ExcName → Option Value} {Q : Value → Shared → Prop} {E : Value → Shared → Prop}
set_option maxRecDepth 100000 in
set_option maxHeartbeats 1000000 in
theorem c_iright {lo hi r k pt : Int} {c : Int × Int} {a f cd : Addr} {tl th tx ty : Tok} {vs : List Value} {n nc : Nat} {cs : List (Int × Int)} (B : Below A base outer h₀) (F : Fr h₀ L s.heap m) (X₀ : (hd.heap_39 w.params).In h₀) (N : News h₀ L s.heap ((a, listOf vs.toArray n) :: news)) (T : Top p loose mean mg mb h₀) (hf : env.frame = some L) (hke : env.scope.kind = .function)
   (hroom : A.depth + 30 < recursionLimit) (hoff : ∀ q ∈ news, q.1 ≠ a) (hD : DatAll news vs (cs.map cardD)) (hC : (cd, listOf #[.int c.1 tx, .int c.2 ty] nc) ∈ news) (hV : ViewIn news f k pt) (hp : 0 ≤ pt ∧ pt ≤ 256)
   (h0 : 0 ≤ lo) (hsz : (cs.length : Int) < 10000) (hlr : lo ≤ r) (hrh : r ≤ hi) (hle : hi ≤ cs.length)
   (hlt : ∀ (j : Nat) c', lo ≤ j → (j : Int) < r → cs[j]? = some c' → ¬ (viewB k pt c.1 = false ∧ viewB k pt c'.1 = true))
   (hge : ∀ (j : Nat) c', r ≤ j → (j : Int) < hi → cs[j]? = some c' → viewB k pt c.1 = false ∧ viewB k pt c'.1 = true)
   (h : ∀ h' tk n', Fr h₀ L h' m → News h₀ L h' ((a, listOf (vs.take r.toNat ++ .ref cd :: vs.drop r.toNat).toArray n') :: news) → Q .none { s with heap := h', toks := tk }) :
   wpAny (model PySem.Challenge.rw_pe0101_01.row.prog w) (A.deeper env) (call (.ref 23) [.ref a, .ref cd, .int lo tl, .int hi th] [(Str.ofString "key", .ref f)]) Q E s := by
  revert X₀
  k_fill
  intro X₀
  have hlen := hD.length
  rw [List.length_map] at hlen
  have sub : ∀ q ∈ news, q ∈ (a, listOf vs.toArray n) :: news := fun q hq => .tail _ hq
  have hD' := hD.mono sub
  have hV' := hV.mono sub
  have hT' : (a, listOf vs.toArray n) ∈ (a, listOf vs.toArray n) :: news := .head _
  have hC' := sub _ hC
  have hsz' : (cs.length : Int) < 2 ^ 62 := by omega
  have hVf := hV'
  obtain ⟨c1, co, tp, c', oc, vs', t, ctv, pm, hm, _⟩ := hVf
  refine wpAny_call ?_
  refine' code_def B F X₀ N T (Around.frames_deeper B.stack) hf hke ?k6 ?k7 (by show A.depth + 1 < _; omega) ?k9 ?kB ?_ ?c2 ?c3 ?c4 ?c5
  (case k6 => k_is); (case k7 => k_is);  (case k9 => first | exact BindsTo.of_eq rfl | exact binds_K (by k_in) rfl (by k_is) rfl rfl rfl | fail "k_enter: no rule for these arguments"); (case c5 => decide); (case kB => exact locs rfl); (case c2 => exact rfl); (case c3 => exact rfl); (case c4 => exact rfl)
  intro g' L' h' FG' F' N' B' X' T'; (try dsimp only)
  refine wpAny_mono (E := fun _ _ => False) ?_ (fun _ _ h => h) (fun _ _ h => h.elim)
  (try k_fold)
  k_steps
  exact h _ _ _ (by assumption) (by assumption)
end
end Mine
end PartB9

section PartL1
open PySem PySem.W PyProof.Rows
namespace Mine
/-- where the walk is to halt -/
def Hold (P : Prop) : Prop := P
theorem Hold.out {P : Prop} (h : Hold P) : P := h
/-- the end of a turn: the iterator stands, the invariant holds of the rest of the ledger -/
def TurnEnd (h₀ : Heap) (L I : Addr) (it : Obj) (J : (Str → Option Value) → List (Addr × Obj) → Prop) (s₁ : Shared) (f : Flow) (s₂ : Shared) : Prop :=
  f = .next ∧ ∃ h' tk m' nw', s₂ = { s₁ with heap := h', toks := tk } ∧ Fr h₀ L h' m' ∧ News h₀ L h' ((I, it) :: nw') ∧ (∀ q ∈ nw', q.1 ≠ I) ∧ J m' nw'
section
variable {prog : Program} {w : World} {A : Around} {s : Shared} {env : Env} {h₀ : Heap} {Q : Flow → Shared → Prop} {E : Value → Shared → Prop} {target : PySem.Expr} {body : List Stmt}
theorem news_cons {h₀ h : Heap} {L a : Addr} {o : Obj} {news : List (Addr × Obj)} (N : News h₀ L h news) (ho : h.get? a = some o) (hL : a ≠ L) (hn : h₀.get? a = none) : News h₀ L h ((a, o) :: news) := fun q hq => by
  rcases List.mem_cons.mp hq with rfl | hq
  · exact ⟨ho, hL, hn⟩
  · exact N q hq
theorem News.tl {h₀ h : Heap} {L : Addr} {p : Addr × Obj} {news : List (Addr × Obj)} (N : News h₀ L h (p :: news)) : News h₀ L h news := fun q hq => N q (.tail _ hq)
theorem for_list {l : Addr} {vs : List Value} {m₀ : Str → Option Value} {nw₀ : List (Addr × Obj)} (J : Nat → (Str → Option Value) → List (Addr × Obj) → Prop)
    (hh : A.handled = none) (F : Fr h₀ env.locals s.heap m₀) (N : News h₀ env.locals s.heap nw₀) (hJ : J 0 m₀ nw₀) (hmem : ∀ i m nw, J i m nw → ∃ n, (l, listOf vs.toArray n) ∈ nw)
    (hgo : ∀ (I : Addr) (i : Nat) (v : Value) (s : Shared) (Q : Unit → Shared → Prop) (E : Value → Shared → Prop), v ∈ vs → s.heap.IsListIter I l i → Q () s → wpAny (model prog w) A (letOwnedTupleGo target (.ref I) v) Q E s)
    (turn : ∀ i v I it m nw h tk, vs[i]? = some v → J i m nw → (∀ q ∈ nw, q.1 ≠ I) → (∀ q ∈ nw₀, q.1 < I) → Fr h₀ env.locals h m → News h₀ env.locals h ((I, it) :: nw) →
      wpAny (model prog w) A (assign target env v) (fun _ s₂ => wpAny (model prog w) A (execs body env) (TurnEnd h₀ env.locals I it (J (i + 1)) { s with heap := h, toks := tk }) (fun _ _ => False) s₂) (fun _ _ => False) { s with heap := h, toks := tk })
    (done : ∀ m nw h tk, J vs.length m nw → Fr h₀ env.locals h m → News h₀ env.locals h nw → Q .next { s with heap := h, toks := tk }) :
    wpAny (model prog w) A (pyIter (.ref l)) (fun it s₂ => codeAny (model prog w) A (.forLoop target it body [] env) (fun r s' => match r with | .ok f => Q f s' | .error e => cameBackBy (model prog w) A env E e s') s₂) E s := by
  obtain ⟨n₀, hm₀⟩ := hmem _ _ _ hJ
  have hl : s.heap.IsList l vs.toArray := ⟨_, N.get hm₀, rfl, n₀, rfl⟩
  refine wpAny_pyIter_list hl ?_
  have hnew := next_is_new F
  have hIL : s.heap.objs.size ≠ env.locals := Nat.ne_of_gt F.ns.lt
  have hlt₀ : ∀ q ∈ nw₀, q.1 < s.heap.objs.size := fun q hq => Heap.lt_size (N q hq).1
  refine codeAny_forLoop_any
    (fun k s' => ∃ h' tk m nw i it, s' = { s with heap := h', toks := tk } ∧ Fr h₀ env.locals h' m ∧ News h₀ env.locals h' ((s.heap.objs.size, it) :: nw) ∧ h'.IsListIter s.heap.objs.size l i ∧ (∀ q ∈ nw, q.1 ≠ s.heap.objs.size) ∧ J i m nw ∧ i ≤ vs.length ∧ k = vs.length + 1 - i) ?_ (vs.length + 1)
    ⟨_, s.toks, m₀, nw₀, 0, { cls := .type "list_iterator", data := .fields #[.ref l, .int 0 0] }, rfl, F.push _, ?_, ⟨_, Heap.get?_push_size _ rfl, rfl, rfl⟩, fun q hq => Nat.ne_of_lt (hlt₀ q hq), hJ, Nat.zero_le _, rfl⟩
  · rintro k s' ⟨h', tk, m, nw, i, it, rfl, F', N', hit, hoff, hJi, hi, rfl⟩
    obtain ⟨n, hm⟩ := hmem _ _ _ hJi
    have hl' : h'.IsList l vs.toArray := ⟨_, N'.get (.tail _ hm), rfl, n, rfl⟩
    by_cases hlt : i < vs.length
    · have hx : vs[i]? = some vs[i] := List.getElem?_eq_getElem hlt
      refine wpAny_pyNext_list_item hit hl' (x := vs[i]) (by simpa using hx) fun h₁ hit₁ hs₁ => ?_
      have F₁ : Fr h₀ env.locals h₁ m := F'.change hs₁ hIL hnew
      have hit₁' := hit₁
      obtain ⟨o₁, ho₁, _⟩ := hit₁'
      have N₁ : News h₀ env.locals h₁ ((s.heap.objs.size, o₁) :: nw) := news_cons (fun q hq => ⟨(hs₁.2 q.1 (hoff q hq)).trans (N' q (.tail _ hq)).1, (N' q (.tail _ hq)).2⟩) ho₁ hIL hnew
      refine hgo _ (i + 1) _ _ _ _ (List.getElem_mem hlt) hit₁ ?_
      refine wpAny_mono (turn i vs[i] s.heap.objs.size o₁ m nw h₁ tk hx hJi hoff hlt₀ F₁ N₁) (fun _ s₂ h₂ => wpAny_mono h₂ (fun f s₃ h₃ => ?_) fun _ _ e => e.elim) fun _ _ e => e.elim
      obtain ⟨rfl, h₃', tk₃, m₃, nw₃, rfl, F₃, N₃, hoff₃, hJ₃⟩ := h₃
      refine ⟨vs.length + 1 - (i + 1), by omega, h₃', tk₃, m₃, nw₃, i + 1, o₁, rfl, F₃, N₃, ?_, hoff₃, hJ₃, hlt, rfl⟩
      obtain ⟨o₂, ho₂, hc₂, hd₂⟩ := hit₁
      have e : o₁ = o₂ := Option.some.inj (ho₁.symm.trans ho₂)
      exact ⟨o₁, N₃.get (.head _), e ▸ hc₂, e ▸ hd₂⟩
    · have hie : i = vs.length := by omega
      subst hie
      refine wpAny_pyNext_list_end hh hit hl' (by simp) fun h₁ he₁ => ?_
      refine wpAny_execs_nil ?_
      refine done m nw h₁ tk hJi ⟨F'.ns.extBut he₁ hIL.symm, fun b o e => he₁ b o (fun q => by rw [q, hnew] at e; cases e) (F'.keep b o e), F'.above⟩ fun q hq => ⟨he₁ _ _ (hoff q hq) (N' q (.tail _ hq)).1, (N' q (.tail _ hq)).2⟩
  · exact news_cons (fun q hq => ⟨Heap.get?_push_of_some _ (N q hq).1, (N q hq).2⟩) (Heap.get?_push_size _ rfl) hIL hnew
theorem go_name {x : Str} {px : Pos} {l : Addr} {vs : List Value} : ∀ (I : Addr) (i : Nat) (v : Value) (s : Shared) (Q : Unit → Shared → Prop) (E : Value → Shared → Prop), v ∈ vs → s.heap.IsListIter I l i → Q () s → wpAny (model prog w) A (letOwnedTupleGo (.Name x px) (.ref I) v) Q E s :=
  fun _ _ _ _ _ _ _ _ h => wpAny_pure h
theorem go_tuple {elts : List PySem.Expr} {k : Nat} {px : Pos} {l : Addr} {vs : List Value} (hr : ∀ v ∈ vs, ∃ a, v = .ref a) : ∀ (I : Addr) (i : Nat) (v : Value) (s : Shared) (Q : Unit → Shared → Prop) (E : Value → Shared → Prop), v ∈ vs → s.heap.IsListIter I l i → Q () s → wpAny (model prog w) A (letOwnedTupleGo (.Tuple elts k px) (.ref I) v) Q E s :=
  fun I i v s Q E hv hit h => by
    obtain ⟨a, rfl⟩ := hr v hv
    exact wpAny_letOwnedTupleGo_listiter hit h
end
end Mine
end PartL1

section PartP1
/- the plain part: laying a row by passes -/
namespace Mine
abbrev Card := Int × Int
def partL (b : Card → Bool) (row : List Card) : List Card := (row.filter (fun c => !b c)).reverse ++ (row.filter b).reverse
def partR (b : Card → Bool) (row : List Card) : List Card := row.filter (fun c => !b c) ++ row.filter b
def cntF (b : Card → Bool) (row : List Card) : Nat := (row.filter (fun c => !b c)).length
def part (left : Bool) (b : Card → Bool) (row : List Card) : List Card := if left then partL b row else partR b row
theorem cnt_le (b : Card → Bool) (row : List Card) : cntF b row ≤ row.length := List.length_filter_le ..
theorem cnt_all (b : Card → Bool) (row : List Card) : cntF b row + (row.filter b).length = row.length := by
  induction row with
  | nil => rfl
  | cons c r ih =>
    unfold cntF at *
    cases h : b c <;> simp [h] <;> omega
theorem part_length (left : Bool) (b : Card → Bool) (row : List Card) : (part left b row).length = row.length := by
  have h := cnt_all b row
  unfold cntF at h
  cases left <;> simp [part, partL, partR] <;> omega
theorem part_no {left : Bool} {b : Card → Bool} {row : List Card} {j : Nat} {c : Card} (h : (part left b row)[j]? = some c) (hj : j < cntF b row) : b c = false := by
  unfold cntF at hj
  cases left with
  | true =>
    simp only [part, partL, if_true] at h
    rw [List.getElem?_append_left (by simpa using hj)] at h
    have := List.mem_of_getElem? h
    simpa using (List.mem_filter.mp (List.mem_reverse.mp this)).2
  | false =>
    simp only [part, partR, Bool.false_eq_true, if_false] at h
    rw [List.getElem?_append_left hj] at h
    simpa using (List.mem_filter.mp (List.mem_of_getElem? h)).2
theorem part_yes {left : Bool} {b : Card → Bool} {row : List Card} {j : Nat} {c : Card} (h : (part left b row)[j]? = some c) (hj : cntF b row ≤ j) : b c = true := by
  unfold cntF at hj
  cases left with
  | true =>
    simp only [part, partL, if_true] at h
    rw [List.getElem?_append_right (by simpa using hj)] at h
    exact (List.mem_filter.mp (List.mem_reverse.mp (List.mem_of_getElem? h))).2
  | false =>
    simp only [part, partR, Bool.false_eq_true, if_false] at h
    rw [List.getElem?_append_right hj] at h
    exact (List.mem_filter.mp (List.mem_of_getElem? h)).2
/-- the place at which the next card is laid, within the row so far -/
def spotIn (left : Bool) (b : Card → Bool) (pre : List Card) (c : Card) : Nat :=
  if left then (if b c then cntF b pre else 0) else (if b c then pre.length else cntF b pre)
theorem spot_le (left : Bool) (b : Card → Bool) (pre : List Card) (c : Card) : spotIn left b pre c ≤ pre.length := by
  have := cnt_le b pre
  unfold spotIn
  cases left <;> cases b c <;> simp <;> omega
theorem part_snoc (left : Bool) (b : Card → Bool) (pre : List Card) (c : Card) :
    part left b (pre ++ [c]) = (part left b pre).take (spotIn left b pre c) ++ c :: (part left b pre).drop (spotIn left b pre c) := by
  have h := cnt_all b pre
  cases left with
  | true =>
    cases hb : b c with
    | true =>
      simp only [part, spotIn, if_true, hb, partL, cntF]
      rw [List.take_left' (by simp), List.drop_left' (by simp)]
      simp [hb]
    | false =>
      simp [part, spotIn, hb, partL]
  | false =>
    cases hb : b c with
    | true =>
      simp only [part, spotIn, if_true, hb, partR, Bool.false_eq_true, if_false]
      unfold cntF at h
      rw [List.take_of_length_le (by simp; omega), List.drop_eq_nil_of_le (by simp; omega)]
      simp [hb]
    | false =>
      simp only [part, spotIn, hb, partR, Bool.false_eq_true, if_false, cntF]
      rw [List.take_left' rfl, List.drop_left' rfl]
      simp [hb]
end Mine
end PartP1

section PartP2
/- the table: what the searches meet -/
namespace Mine
def tabOf (left : Bool) (T seg : List Card) : List Card := if left then T ++ seg else seg ++ T
def baseOf (left : Bool) (T : List Card) : Nat := if left then T.length else 0
theorem tab_length (left : Bool) (T seg : List Card) : (tabOf left T seg).length = T.length + seg.length := by
  cases left <;> simp [tabOf] <;> omega
theorem tab_at {left : Bool} {T seg : List Card} {j : Nat} (h1 : baseOf left T ≤ j) (h2 : j < baseOf left T + seg.length) : (tabOf left T seg)[j]? = seg[j - baseOf left T]? := by
  cases left with
  | true =>
    simp only [tabOf, baseOf, if_true] at *
    rw [List.getElem?_append_right h1]
  | false =>
    simp only [tabOf, baseOf, Bool.false_eq_true, if_false, Nat.zero_add, Nat.sub_zero] at *
    rw [List.getElem?_append_left h2]
theorem tab_ins (left : Bool) (T seg : List Card) (r : Nat) (c : Card) (hr : r ≤ seg.length) :
    tabOf left T (seg.take r ++ c :: seg.drop r) = (tabOf left T seg).take (baseOf left T + r) ++ c :: (tabOf left T seg).drop (baseOf left T + r) := by
  cases left with
  | true =>
    simp only [tabOf, baseOf, if_true]
    rw [List.take_append, List.drop_append]
    simp [List.take_of_length_le, List.drop_eq_nil_of_le]
  | false =>
    simp only [tabOf, baseOf, Bool.false_eq_true, if_false, Nat.zero_add]
    rw [List.take_append_of_le_length hr, List.drop_append_of_le_length hr]
    simp
theorem tab_slice (left : Bool) (T seg : List Card) : ((tabOf left T seg).drop (baseOf left T)).take seg.length = seg := by
  cases left <;> simp [tabOf, baseOf]
theorem tab_next (left : Bool) (b : Card → Bool) (T row : List Card) (i : Nat) (hi : i < row.length) :
    tabOf left T (part left b (row.take (i + 1))) = (tabOf left T (part left b (row.take i))).take (baseOf left T + spotIn left b (row.take i) row[i]) ++ row[i] :: (tabOf left T (part left b (row.take i))).drop (baseOf left T + spotIn left b (row.take i) row[i]) := by
  have e : row.take (i + 1) = row.take i ++ [row[i]] := by rw [List.take_append_getElem hi]
  rw [e, part_snoc, tab_ins]
  rw [part_length]
  exact spot_le ..
section
variable {b : Card → Bool} {T pre row : List Card} {c : Card} {left : Bool}
/-- insort_left's search -/
theorem left_lt {j : Nat} {c' : Card} (h1 : ((baseOf true T : Nat) : Int) ≤ j) (h2 : (j : Int) < ((baseOf true T + spotIn true b pre c : Nat) : Int)) (h : (tabOf true T (part true b pre))[j]? = some c') : b c' = false ∧ b c = true := by
  have hl := part_length true b pre
  have hs := spot_le true b pre c
  have hc := cnt_le b pre
  have e := tab_at (left := true) (T := T) (seg := part true b pre) (j := j) (by omega) (by omega)
  rw [e] at h
  unfold spotIn at h2
  cases hb : b c with
  | true => rw [hb] at h2; simp only [if_true] at h2; exact ⟨part_no h (by omega), rfl⟩
  | false => rw [hb] at h2; simp at h2; omega
theorem left_ge {j : Nat} {c' : Card} (h1 : ((baseOf true T + spotIn true b pre c : Nat) : Int) ≤ j) (h2 : (j : Int) < (tabOf true T (part true b pre)).length) (h : (tabOf true T (part true b pre))[j]? = some c') : ¬ (b c' = false ∧ b c = true) := by
  have hl := part_length true b pre
  have ht := tab_length true T (part true b pre)
  have hbase : baseOf true T = T.length := rfl
  rintro ⟨h3, h4⟩
  unfold spotIn at h1
  rw [h4] at h1
  simp only [if_true] at h1
  have e := tab_at (left := true) (T := T) (seg := part true b pre) (j := j) (by omega) (by omega)
  rw [e] at h
  rw [part_yes h (by omega)] at h3
  cases h3
/-- insort_right's search -/
theorem right_lt {j : Nat} {c' : Card} (h1 : ((baseOf false T : Nat) : Int) ≤ j) (h2 : (j : Int) < ((baseOf false T + spotIn false b pre c : Nat) : Int)) (h : (tabOf false T (part false b pre))[j]? = some c') : ¬ (b c = false ∧ b c' = true) := by
  have hl := part_length false b pre
  have hs := spot_le false b pre c
  rintro ⟨h3, h4⟩
  have e := tab_at (left := false) (T := T) (seg := part false b pre) (j := j) (by omega) (by omega)
  rw [e] at h
  unfold spotIn at h2
  rw [h3] at h2
  simp only [Bool.false_eq_true, if_false] at h2
  rw [part_no h (by omega)] at h4
  cases h4
theorem right_ge {j : Nat} {c' : Card} (h1 : ((baseOf false T + spotIn false b pre c : Nat) : Int) ≤ j) (h2 : (j : Int) < (pre.length : Int)) (h : (tabOf false T (part false b pre))[j]? = some c') : b c = false ∧ b c' = true := by
  have hl := part_length false b pre
  have hbase : baseOf false T = 0 := rfl
  have e := tab_at (left := false) (T := T) (seg := part false b pre) (j := j) (by omega) (by omega)
  rw [e] at h
  unfold spotIn at h1
  cases hb : b c with
  | true => rw [hb] at h1; simp only [if_true, Bool.false_eq_true, if_false] at h1; omega
  | false => rw [hb] at h1; simp only [Bool.false_eq_true, if_false] at h1; exact ⟨rfl, part_yes h (by omega)⟩
/-- the two searches within a pass's row -/
theorem meet_lo {j : Nat} {c' : Card} (h1 : ((baseOf left T : Nat) : Int) ≤ j) (h2 : (j : Int) < ((baseOf left T + cntF b row : Nat) : Int)) (h : (tabOf left T (part left b row))[j]? = some c') : b c' = false := by
  have hl := part_length left b row
  have hc := cnt_le b row
  have e := tab_at (left := left) (T := T) (seg := part left b row) (j := j) (by omega) (by omega)
  rw [e] at h
  exact part_no h (by omega)
theorem meet_hi {j : Nat} {c' : Card} (h1 : ((baseOf left T + cntF b row : Nat) : Int) ≤ j) (h2 : (j : Int) < ((baseOf left T + row.length : Nat) : Int)) (h : (tabOf left T (part left b row))[j]? = some c') : b c' = true := by
  have hl := part_length left b row
  have e := tab_at (left := left) (T := T) (seg := part left b row) (j := j) (by omega) (by omega)
  rw [e] at h
  exact part_yes h (by omega)
end
end Mine
end PartP2

section PartL2
open PySem PySem.W PyProof.Rows
namespace Mine
local macro_rules | `(tactic| k_mem) => `(tactic| with_reducible assumption)
def fBody : Stmt → List Stmt
  | .For _ _ b _ _ => b
  | _ => []
def outerFor : Stmt := (bodyOf (topStmt 13)).getD 3 default
def innerFor : Stmt := (fBody outerFor).getD 3 default
abbrev laidEnv (L : Addr) : Env := envOf (Str.ofString "_law_laid") (scopeOf (topStmt 13)) L 85 (.ref 84)
theorem DatAll.take {news : List (Addr × Obj)} {vs : List Value} {ds : List Dat} (h : DatAll news vs ds) (k : Nat) : DatAll news (vs.take k) (ds.take k) := by
  induction k generalizing vs ds with
  | zero => simpa using DatAll.nil
  | succ k ih =>
    cases h with
    | nil => exact .nil
    | cons h r => exact .cons h (ih r)
theorem DatAll.drop {news : List (Addr × Obj)} {vs : List Value} {ds : List Dat} (h : DatAll news vs ds) (k : Nat) : DatAll news (vs.drop k) (ds.drop k) := by
  induction k generalizing vs ds with
  | zero => exact h
  | succ k ih =>
    cases h with
    | nil => exact .nil
    | cons h r => exact ih r
theorem card_dat {news : List (Addr × Obj)} {a : Addr} {c : Int × Int} {tx ty : Tok} {n : Nat} (h : (a, listOf #[.int c.1 tx, .int c.2 ty] n) ∈ news) : DatIn news (.ref a) (cardD c) :=
  .list h (.cons (.int _ _) (.cons (.int _ _) .nil))
theorem DatAll.insert {news : List (Addr × Obj)} {vs : List Value} {cs : List (Int × Int)} {v : Value} {c : Int × Int} (h : DatAll news vs (cs.map cardD)) (hc : DatIn news v (cardD c)) (r : Nat) :
    DatAll news (vs.take r ++ v :: vs.drop r) ((cs.take r ++ c :: cs.drop r).map cardD) := by
  rw [List.map_append, List.map_cons, List.map_take, List.map_drop]
  exact (DatAll.take h r).append (.cons hc (DatAll.drop h r))
local macro_rules | `(tactic| walk_at "loadName") => `(tactic| (k_here; k_dflt (refine' ldn ?F ?v ?_; (case F => k_asm); (case v => first | exact rfl | assumption); k_whole)))
local macro_rules | `(tactic| walk_at "eval Name") => `(tactic| (k_here; k_dflt (refine' ld ?F ?v ?_; (case F => k_asm); (case v => first | exact rfl | assumption); k_whole)))
local macro_rules | `(tactic| walk_at "call ref") => `(tactic| (k_here; k_dflt (refine' c_ileft ?B ?F ?X ?N ?T ?hf ?hk ?r ?o ?hD ?hC ?hV ?hp ?h0 ?sz ?lr ?rh ?lt ?ge ?_; (case B => k_asm); (case F => k_asm); (case X => k_asm); (case N => k_asm); (case T => k_asm); (case hf => rfl); (case hk => rfl); (case r => ((try simp only [depth_deeper]); omega)); (case o => with_reducible assumption); (case hD => with_reducible assumption); (case hC => with_reducible assumption); (case hV => with_reducible assumption); (case hp => with_reducible assumption); (case lt => with_reducible assumption); (case ge => with_reducible assumption); (case h0 => with_reducible assumption); (case sz => with_reducible assumption); (case lr => with_reducible assumption); (case rh => with_reducible assumption); k_whole); intro h' tk' n' F' N'))
local macro_rules | `(tactic| walk_at "call ref") => `(tactic| (k_here; k_dflt (refine' c_iright ?B ?F ?X ?N ?T ?hf ?hk ?r ?o ?hD ?hC ?hV ?hp ?h0 ?sz ?lr ?rh ?le ?lt ?ge ?_; (case B => k_asm); (case F => k_asm); (case X => k_asm); (case N => k_asm); (case T => k_asm); (case hf => rfl); (case hk => rfl); (case r => ((try simp only [depth_deeper]); omega)); (case o => with_reducible assumption); (case hD => with_reducible assumption); (case hC => with_reducible assumption); (case hV => with_reducible assumption); (case hp => with_reducible assumption); (case lt => with_reducible assumption); (case ge => with_reducible assumption); (case h0 => with_reducible assumption); (case sz => with_reducible assumption); (case lr => with_reducible assumption); (case rh => with_reducible assumption); (case le => with_reducible assumption); k_whole); intro h' tk' n' F' N'))
theorem turn_end {h₀ h' : Heap} {L I t cd : Addr} {it : Obj} {s₁ : Shared} {m m' : Str → Option Value} {rest rd : List (Addr × Obj)} {left : Bool} {b : Card → Bool} {T row : List Card} {tv' : List Value} {i n' nc tk : Nat} {td tx ty : Tok} (hi : i < row.length)
    (hD' : DatAll rd tv' ((tabOf left T (part left b (row.take i))).map cardD)) (hcm : (cd, listOf #[.int row[i].1 tx, .int row[i].2 ty] nc) ∈ rd) (hoff : ∀ q ∈ rest, q.1 ≠ t) (hI : t ≠ I) (hIr : ∀ q ∈ rest, q.1 ≠ I)
    (F : Fr h₀ L h' m') (N : News h₀ L h' ((t, listOf (tv'.take (((baseOf left T + spotIn left b (row.take i) row[i] : Nat) : Int)).toNat ++ .ref cd :: tv'.drop (((baseOf left T + spotIn left b (row.take i) row[i] : Nat) : Int)).toNat).toArray n') :: (I, it) :: rest))
    (hd : m' (Str.ofString "done") = some (.int ((i : Int) + 1) td)) (hm : ∀ x, x ≠ Str.ofString "done" → x ≠ Str.ofString "card" → m' x = m x) :
    TurnEnd h₀ L I it (fun m' nw => ∃ tv' n', nw = (t, listOf tv'.toArray n') :: rest ∧ DatAll rd tv' ((tabOf left T (part left b (row.take (i + 1)))).map cardD) ∧ (∃ td, m' (Str.ofString "done") = some (.int ((i + 1 : Nat) : Int) td)) ∧ ∀ x, x ≠ Str.ofString "done" → x ≠ Str.ofString "card" → m' x = m x) s₁ .next { s₁ with heap := h', toks := tk } := by
  refine ⟨rfl, h', tk, m', (t, listOf (tv'.take (baseOf left T + spotIn left b (row.take i) row[i]) ++ .ref cd :: tv'.drop (baseOf left T + spotIn left b (row.take i) row[i])).toArray n') :: rest, rfl, F, fun q hq => N q ?_, fun q hq => ?_, _, n', rfl, ?_, ⟨td, by rw [hd]; simp⟩, hm⟩
  · simp only [List.mem_cons, Int.toNat_natCast] at hq ⊢
    rcases hq with h1 | h1 | h1 <;> simp [h1]
  · rcases List.mem_cons.mp hq with rfl | hq
    · exact hI
    · exact hIr q hq
  · rw [tab_next left b T row i hi]
    exact DatAll.insert hD' (card_dat hcm) _
section
variable {w : World} {A : Around} {base h₀ : Heap} {outer : List Env} {L : Addr} {s : Shared} {m mg mb : Str → Option Value} {p : Program} {loose : List Str} {mean : ExcName → Option Value} {Q : Flow → Shared → Prop}
set_option maxRecDepth 100000 in
set_option maxHeartbeats 2000000 in
theorem inner_loop {k pt : Int} {left : Bool} {t ra f : Addr} {tv rv : List Value} {n nr : Nat} {T row : List Card} {rest rd : List (Addr × Obj)} {t1 t2 : Tok}
   (B : Below A base outer h₀) (F : Fr h₀ L s.heap m) (X₀ : (hd.heap_39 w.params).In h₀) (N : News h₀ L s.heap ((t, listOf tv.toArray n) :: rest)) (hTop : Top p loose mean mg mb h₀)
   (hroom : A.depth + 40 < recursionLimit) (hh : A.handled = none) (hoff : ∀ q ∈ rest, q.1 ≠ t) (hsub : ∀ q ∈ rd, q ∈ rest) (hD : DatAll rd tv (T.map cardD)) (hR : DatAll rd rv (row.map cardD)) (hra : (ra, listOf rv.toArray nr) ∈ rest) (hV : ViewIn rest f k pt) (hp : 0 ≤ pt ∧ pt ≤ 256)
   (hsz : T.length + row.length < 10000) (mt : m (Str.ofString "table") = some (.ref t)) (mr : m (Str.ofString "row") = some (.ref ra)) (ml : m (Str.ofString "left") = some (.bool left)) (mb : m (Str.ofString "base") = some (.int (baseOf left T : Nat) t1)) (md : m (Str.ofString "done") = some (.int 0 t2)) (mv : m (Str.ofString "view") = some (.ref f))
   (hQ : ∀ h' tk m' tv' n' td, Fr h₀ L h' m' → News h₀ L h' ((t, listOf tv'.toArray n') :: rest) → DatAll rd tv' ((tabOf left T (part left (fun c => viewB k pt c.1) row)).map cardD) → m' (Str.ofString "done") = some (.int (row.length : Nat) td) →
      (∀ x, x ≠ Str.ofString "done" → x ≠ Str.ofString "card" → m' x = m x) → Q .next { s with heap := h', toks := tk }) :
   wpAny (model PySem.Challenge.rw_pe0101_01.row.prog w) (A.deeper (laidEnv L)) (exec innerFor (laidEnv L)) Q (fun _ _ => False) s := by
  revert X₀
  k_fill
  intro X₀
  have e1 : scopeOf (topStmt 13) = Scope.mk _ _ _ _ _ := rfl
  have e2 : innerFor = Stmt.For (PySem.Expr.Name _ _) (PySem.Expr.Name _ _) [_, _] [] _ := rfl
  unfold laidEnv
  rw [e1, e2]
  refine wpAny_For ?_
  refine ld F mr ?_
  have hlen := hR.length
  rw [List.length_map] at hlen
  refine for_list (vs := rv) (fun i m' nw => ∃ tv' n', nw = (t, listOf tv'.toArray n') :: rest ∧ DatAll rd tv' ((tabOf left T (part left (fun c => viewB k pt c.1) (row.take i))).map cardD) ∧ (∃ td, m' (Str.ofString "done") = some (.int (i : Nat) td)) ∧ ∀ x, x ≠ Str.ofString "done" → x ≠ Str.ofString "card" → m' x = m x)
    hh F N ⟨tv, n, rfl, ?_, ⟨t2, md⟩, fun _ _ _ => rfl⟩ ?_ go_name ?_ ?_
  · have e : tabOf left T (part left (fun c => viewB k pt c.1) (row.take 0)) = T := by cases left <;> simp [tabOf, part, partL, partR]
    rw [e]; exact hD
  · rintro i m' nw ⟨tv', n', rfl, _⟩
    exact ⟨nr, .tail _ hra⟩
  · rintro i v I it m' nw h tk hv ⟨tv', n', rfl, hD', ⟨td, md'⟩, hm'⟩ hoffI _ F' N'
    have mt' : m' (Str.ofString "table") = some (.ref t) := (hm' _ (by decide) (by decide)).trans mt
    have mb' : m' (Str.ofString "base") = some (.int (baseOf left T : Nat) t1) := (hm' _ (by decide) (by decide)).trans mb
    have mv' : m' (Str.ofString "view") = some (.ref f) := (hm' _ (by decide) (by decide)).trans mv
    have ml' : m' (Str.ofString "left") = some (.bool left) := (hm' _ (by decide) (by decide)).trans ml
    have hi : i < row.length := by rw [← hlen]; exact (List.getElem?_eq_some_iff.mp hv).1
    obtain ⟨cd, nc, tx, ty, hvc, hcm⟩ := DatAll.card hR (List.getElem?_eq_getElem hi)
    rw [hv] at hvc
    cases hvc
    have N2 : News h₀ L h ((t, listOf tv'.toArray n') :: (I, it) :: rest) := fun q hq => N' q (by
      simp only [List.mem_cons] at hq ⊢
      rcases hq with h1 | h1 | h1 <;> simp [h1])
    have sub : ∀ q ∈ rest, q ∈ (I, it) :: rest := fun q hq => .tail _ hq
    have hoff2 : ∀ q ∈ (I, it) :: rest, q.1 ≠ t := fun q hq => by
      rcases List.mem_cons.mp hq with rfl | hq
      · exact (hoffI _ (.head _)).symm
      · exact hoff q hq
    have hD2 := hD'.mono fun q hq => sub q (hsub q hq)
    have hC2 := sub _ (hsub _ hcm)
    have hV2 := hV.mono sub
    have hlp := part_length left (fun c => viewB k pt c.1) (row.take i)
    have htl := tab_length left T (part left (fun c => viewB k pt c.1) (row.take i))
    have hlt : (row.take i).length = i := by rw [List.length_take]; omega
    have hsp := spot_le left (fun c => viewB k pt c.1) (row.take i) row[i]
    have z0 : (0 : Int) ≤ ((baseOf left T : Nat) : Int) := by omega
    have z1 : ((tabOf left T (part left (fun c => viewB k pt c.1) (row.take i))).length : Int) < 10000 := by omega
    have z2 : ((baseOf left T : Nat) : Int) ≤ ((baseOf left T + spotIn left (fun c => viewB k pt c.1) (row.take i) row[i] : Nat) : Int) := by omega
    clear N'
    cases left with
    | true =>
      have z3 : ((baseOf true T + spotIn true (fun c => viewB k pt c.1) (row.take i) row[i] : Nat) : Int) ≤ (tabOf true T (part true (fun c => viewB k pt c.1) (row.take i))).length := by
        have : baseOf true T = T.length := rfl
        omega
      have q1 := @left_lt (fun c => viewB k pt c.1) T (row.take i) row[i]
      have q2 := @left_ge (fun c => viewB k pt c.1) T (row.take i) row[i]
      refine wpAny_mono (Q := fun _ s₂ => wpAny _ _ _ (Stop (TurnEnd _ _ _ _ _ _)) _ s₂) ?_ (fun _ _ h => h) (fun _ _ h => h)
      k_steps
      rename_i hx Fx Nx
      exact turn_end hi hD' hcm hoff (hoffI _ (.head _)) (fun q hq => hoffI q (.tail _ hq)) Fx Nx rfl (fun x h1 h2 => by simp [h1, h2, hm' x h1 h2])
    | false =>
      have z3 : ((baseOf false T + spotIn false (fun c => viewB k pt c.1) (row.take i) row[i] : Nat) : Int) ≤ (i : Nat) := by
        have : baseOf false T = 0 := rfl
        omega
      have z4 : ((i : Nat) : Int) ≤ (tabOf false T (part false (fun c => viewB k pt c.1) (row.take i))).length := by omega
      have q1 := @right_lt (fun c => viewB k pt c.1) T (row.take i) row[i]
      have q2 := @right_ge (fun c => viewB k pt c.1) T (row.take i) row[i]
      rw [hlt] at q2
      have b0 : baseOf false T = 0 := rfl
      rw [b0] at q1 q2 z0 z2 z3
      simp only [Nat.zero_add] at q1 q2 z0 z2 z3
      have q3 : ∀ (j : Nat) (c' : Card), (0 : Int) ≤ j → (j : Int) < ((spotIn false (fun c => viewB k pt c.1) (row.take i) row[i] : Nat) : Int) → (tabOf false T (part false (fun c => viewB k pt c.1) (row.take i)))[j]? = some c' → ¬ (viewB k pt row[i].1 = false ∧ viewB k pt c'.1 = true) :=
        fun j c' h1 h2 h => q1 h1 h2 h
      have z5 : (0 : Int) ≤ 0 := by omega
      have z6 : (0 : Int) ≤ ((spotIn false (fun c => viewB k pt c.1) (row.take i) row[i] : Nat) : Int) := by omega
      refine wpAny_mono (Q := fun _ s₂ => wpAny _ _ _ (Stop (TurnEnd _ _ _ _ _ _)) _ s₂) ?_ (fun _ _ h => h) (fun _ _ h => h)
      k_steps
      rename_i hx Fx Nx
      exact turn_end hi hD' hcm hoff (hoffI _ (.head _)) (fun q hq => hoffI q (.tail _ hq)) Fx (by rw [b0, Nat.zero_add]; exact Nx) rfl (fun x h1 h2 => by simp [h1, h2, hm' x h1 h2])
  · rintro m' nw h tk ⟨tv', n', rfl, hD', ⟨td, md'⟩, hm'⟩ F' N'
    rw [hlen] at md' hD'
    rw [List.take_length] at hD'
    exact hQ h tk m' tv' n' td F' N' hD' md' hm'
end
end Mine
end PartL2

section PartS1
open PySem PySem.W PyProof.Rows
namespace Mine
theorem pick_between (vs : List Value) {a b : Int} (h0 : 0 ≤ a) (h1 : a ≤ b) (h2 : b ≤ vs.length) : (slicePick vs.toArray (some a) (some b) none).toList = (vs.drop a.toNat).take (b - a).toNat := by
  have e : sliceBounds (some a) (some b) none vs.toArray.size = (((a.toNat : Nat) : Int), ((b.toNat : Nat) : Int), 1) := by
    simp only [sliceBounds, Option.getD_none, show (1 : Int) > 0 by decide, if_true, if_neg (show ¬ (a < 0) by omega), if_neg (show ¬ (b < 0) by omega), List.size_toArray]
    congr 1
    · omega
    · congr 1
      omega
  rw [kmk_pick_nat _ e]
  show (vs.drop a.toNat).take (b.toNat - a.toNat) = _
  congr 1
  omega
theorem pick_upto (vs : List Value) {y : Int} (h : 0 ≤ y) : (slicePick vs.toArray none (some y) none).toList = vs.take y.toNat := by
  have e : sliceBounds none (some y) none vs.toArray.size = (((0 : Nat) : Int), ((min y.toNat vs.toArray.size : Nat) : Int), 1) := by
    simp only [sliceBounds, Option.getD_none, show (1 : Int) > 0 by decide, if_true, if_neg (show ¬ (y < 0) by omega)]
    congr 1
    congr 1
    omega
  rw [kmk_pick_nat _ e]
  show ((vs.drop 0).take (min y.toNat vs.toArray.size - 0)) = _
  rw [List.drop_zero, Nat.sub_zero, List.size_toArray, kmk_take_min]
abbrev Pass := Int × Bool × Int
def passD (q : Pass) : Dat := .list [.int q.1, .bool q.2.1, .int q.2.2]
def passB (q : Pass) (c : Card) : Bool := viewB q.1 q.2.2 c.1
def meetD (r : Nat) : Dat := .list [.int r, .int r]
theorem pass_inv {news : List (Addr × Obj)} {v : Value} {q : Pass} (h : DatIn news v (passD q)) :
    ∃ a n tx ty, v = .ref a ∧ (a, listOf #[.int q.1 tx, .bool q.2.1, .int q.2.2 ty] n) ∈ news := by
  obtain ⟨x, b, y⟩ := q
  unfold passD at h
  cases h with
  | list hm r =>
    cases r with
    | cons h1 r =>
      cases h1 with
      | int =>
        cases r with
        | cons h2 r =>
          cases h2 with
          | bool =>
            cases r with
            | cons h3 r =>
              cases h3 with
              | int =>
                cases r
                exact ⟨_, _, _, _, rfl, hm⟩
theorem dat_at {news : List (Addr × Obj)} {vs : List Value} {α : Type} {g : α → Dat} {xs : List α} (h : DatAll news vs (xs.map g)) {j : Nat} {x : α} (hx : xs[j]? = some x) : ∃ v, vs[j]? = some v ∧ DatIn news v (g x) := by
  have hj : j < (xs.map g).length := by
    rw [List.length_map]; exact (List.getElem?_eq_some_iff.mp hx).1
  obtain ⟨v, hv, hd⟩ := h.get hj
  have e : (xs.map g)[j] = g x := by
    have := (List.getElem?_eq_some_iff.mp hx).2
    simp [this]
  rw [e] at hd
  exact ⟨v, hv, hd⟩
theorem dat_refs {news : List (Addr × Obj)} {vs : List Value} {α : Type} {g : α → List Dat} {xs : List α} (h : DatAll news vs (xs.map fun x => Dat.list (g x))) : ∀ v ∈ vs, ∃ a, v = .ref a := by
  intro v hv
  induction xs generalizing vs with
  | nil => cases h; cases hv
  | cons x xs ih =>
    cases h with
    | cons h r =>
      rcases List.mem_cons.mp hv with rfl | hv
      · cases h; exact ⟨_, rfl⟩
      · exact ih r hv
/-- the state of the laying -/
structure LaidSt where
  T : List Card
  M : List Nat
  R : List Card
def laidStep (st : LaidSt) (q : Pass) : LaidSt :=
  ⟨tabOf q.2.1 st.T (part q.2.1 (passB q) st.R), st.M ++ [baseOf q.2.1 st.T + cntF (passB q) st.R], part q.2.1 (passB q) st.R⟩
theorem laid_snoc (st : LaidSt) (qs : List Pass) {i : Nat} {q : Pass} (h : qs[i]? = some q) : (qs.take (i + 1)).foldl laidStep st = laidStep ((qs.take i).foldl laidStep st) q := by
  rw [List.take_add_one, h]; simp
theorem laid_sizes (qs : List Pass) : ∀ st : LaidSt, (qs.foldl laidStep st).T.length = st.T.length + qs.length * st.R.length ∧ (qs.foldl laidStep st).R.length = st.R.length ∧ (qs.foldl laidStep st).M.length = st.M.length + qs.length := by
  induction qs with
  | nil => intro st; simp
  | cons q qs ih =>
    intro st
    rw [List.foldl_cons]
    obtain ⟨h1, h2, h3⟩ := ih (laidStep st q)
    simp only [laidStep, tab_length, part_length, List.length_append, List.length_cons, List.length_nil] at h1 h2 h3 ⊢
    refine ⟨?_, h2, by omega⟩
    rw [h1, Nat.add_mul]; omega
end Mine
end PartS1

section PartL3a
open PySem PySem.W PyProof.Rows
namespace Mine
local macro_rules | `(tactic| k_mem) => `(tactic| with_reducible assumption)
local macro_rules | `(tactic| k_all) => `(tactic| with_reducible assumption)
/-- between two passes -/
def LaidInv (t me : Addr) (rest : List (Addr × Obj)) (st : LaidSt) (m' : Str → Option Value) (nw : List (Addr × Obj)) : Prop :=
  ∃ tv n1 mv n2 ps rest' ra rv nr, nw = (t, listOf (List.toArray tv) n1) :: (me, listOf (List.toArray mv) n2) :: (73, tabObj ps) :: rest' ∧ (∀ q ∈ rest, q ∈ rest') ∧ (∀ q ∈ rest', q.1 ≠ t ∧ q.1 ≠ me ∧ q.1 ≠ 73) ∧
    DatAll rest' tv (st.T.map cardD) ∧ DatAll rest' mv (st.M.map meetD) ∧ (ra, listOf (List.toArray rv) nr) ∈ rest' ∧ DatAll rest' rv (st.R.map cardD) ∧ TabInv rest' ps ∧
    m' (Str.ofString "table") = some (.ref t) ∧ m' (Str.ofString "meets") = some (.ref me) ∧ m' (Str.ofString "row") = some (.ref ra)
local macro_rules | `(tactic| walk_at "eval Name") => `(tactic| (k_here; k_dflt (refine' ld ?F ?v ?_; (case F => k_asm); (case v => first | exact rfl | assumption); k_whole)))
local macro_rules | `(tactic| walk_at "call ref") => `(tactic| (k_here; k_dflt (refine' c_bleft ?B ?F ?X ?N ?T ?hf ?hk ?r ?hT ?hD ?hV ?hp ?hh ?h0 ?sz ?le ?lr ?rh ?lt ?ge ?_; (case B => k_asm); (case F => k_asm); (case X => k_asm); (case N => k_asm); (case T => k_asm); (case hf => rfl); (case hk => rfl); (case r => ((try simp only [depth_deeper]); omega)); (case hT => k_mem); (case hD => with_reducible assumption); (case hV => with_reducible assumption); (case hp => with_reducible assumption); (case hh => exact Or.inr ⟨_, rfl⟩); (case lt => with_reducible assumption); (case ge => with_reducible assumption); (case h0 => with_reducible assumption); (case sz => with_reducible assumption); (case le => with_reducible assumption); (case lr => with_reducible assumption); (case rh => with_reducible assumption); k_whole); intro h' tk' t' F' N'))
local macro_rules | `(tactic| walk_at "call ref") => `(tactic| (k_here; k_dflt (refine' c_bright ?B ?F ?X ?N ?T ?hf ?hk ?r ?hT ?hD ?hV ?hp ?hh ?h0 ?sz ?le ?lr ?rh ?lt ?ge ?_; (case B => k_asm); (case F => k_asm); (case X => k_asm); (case N => k_asm); (case T => k_asm); (case hf => rfl); (case hk => rfl); (case r => ((try simp only [depth_deeper]); omega)); (case hT => k_mem); (case hD => with_reducible assumption); (case hV => with_reducible assumption); (case hp => with_reducible assumption); (case hh => exact Or.inr ⟨_, rfl⟩); (case lt => with_reducible assumption); (case ge => with_reducible assumption); (case h0 => with_reducible assumption); (case sz => with_reducible assumption); (case le => with_reducible assumption); (case lr => with_reducible assumption); (case rh => with_reducible assumption); k_whole); intro h' tk' t' F' N'))
local macro_rules | `(tactic| walk_at "subscriptTail Name Slice ref ref") => `(tactic| (k_here; (with_reducible show wpAny _ _ (subscriptTail _ (PySem.Expr.Slice _ _ none _) (Value.ref _) (Value.ref _)) _ _ _); k_dflt (refine' kmk_slice_lit ?F ?N ?l ?p ?q ?e ?_ ?s ?t ?z; (case F => k_asm); (case N => k_asm); (case l => kmk_list); (case p => kmk_part); (case q => kmk_part); (case e => exact pick_between _ (by omega) (by omega) (by omega)); (case s => with_unfolding_all rfl); (case t => kmk_pure); (case z => (rw [List.size_toArray, sizeLine_eq]; omega))); intro D' h' F' N' l1))
local macro_rules | `(tactic| walk_at "call builtin:list.append") => `(tactic| (k_here; (with_reducible show wpAny _ _ (call (Value.builtin _) [Value.ref _, _]) _ _ _); k_dflt (refine' append_K ?k1 ?k2 ?k3 ?_ ?z; (case k1 => k_asm); (case k2 => k_asm); (case k3 => k_upd); (case z => (rw [List.size_toArray, sizeLine_eq]; omega)); k_whole); intro h' F' N'))
theorem pass_end {h₀ h' : Heap} {L I t me Dx lx : Addr} {it : Obj} {s₁ : Shared} {m' : Str → Option Value} {rest rest2 : List (Addr × Obj)} {kd pt : Int} {lf : Bool} {st : LaidSt} {tv mv : List Value} {n1 n2 n3 tk k1 k2 : Nat} {ta tb : Tok} {ps : Array Value}
    (sub : ∀ q ∈ rest, q ∈ rest2) (off : ∀ q ∈ rest2, q.1 ≠ t ∧ q.1 ≠ me ∧ q.1 ≠ 73) (offI : ∀ q ∈ rest2, q.1 ≠ I) (x4 : (t : Nat) ≠ I) (x5 : (me : Nat) ≠ I) (x6 : (73 : Nat) ≠ I)
    (hT : DatAll rest2 tv ((tabOf lf st.T (part lf (passB (kd, lf, pt)) st.R)).map cardD)) (hM : DatAll rest2 mv (st.M.map meetD)) (hI : TabInv rest2 ps)
    (lt : t < lx) (lm : me < lx) (l7 : 73 < lx) (lI : I < lx) (lz : lx < Dx) (e1 : k1 = baseOf lf st.T) (e2 : k2 = st.R.length)
    (F : Fr h₀ L h' m') (N : News h₀ L h' ((Dx, listOf (List.toArray ((tv.drop k1).take k2)) 0) :: (lx, listOf #[.int ((baseOf lf st.T + cntF (passB (kd, lf, pt)) st.R : Nat) : Int) ta, .int ((baseOf lf st.T + cntF (passB (kd, lf, pt)) st.R : Nat) : Int) tb] n3) :: (t, listOf (List.toArray tv) n1) :: (me, listOf (List.toArray (mv ++ [.ref lx])) n2) :: (73, tabObj ps) :: (I, it) :: rest2))
    (mt : m' (Str.ofString "table") = some (.ref t)) (mm : m' (Str.ofString "meets") = some (.ref me)) (mr : m' (Str.ofString "row") = some (.ref Dx)) :
    TurnEnd h₀ L I it (LaidInv t me rest (laidStep st (kd, lf, pt))) s₁ .next { s₁ with heap := h', toks := tk } := by
  subst e1 e2
  have s2 : ∀ {x y : Addr × Obj}, ∀ q ∈ rest2, q ∈ x :: y :: rest2 := fun q hq => .tail _ (.tail _ hq)
  refine ⟨rfl, h', tk, m', (t, listOf (List.toArray tv) n1) :: (me, listOf (List.toArray (mv ++ [.ref lx])) n2) :: (73, tabObj ps) :: (Dx, listOf (List.toArray ((tv.drop (baseOf lf st.T)).take st.R.length)) 0) :: (lx, listOf #[.int ((baseOf lf st.T + cntF (passB (kd, lf, pt)) st.R : Nat) : Int) ta, .int ((baseOf lf st.T + cntF (passB (kd, lf, pt)) st.R : Nat) : Int) tb] n3) :: rest2, rfl, F, fun q hq => N q ?_, fun q hq => ?_,
    tv, n1, mv ++ [.ref lx], n2, ps, _, Dx, (tv.drop (baseOf lf st.T)).take st.R.length, 0, rfl, fun q hq => s2 q (sub q hq), fun q hq => ?_, ?_, ?_, .head _, ?_, hI.mono s2, mt, mm, mr⟩
  · simp only [List.mem_cons] at hq ⊢
    rcases hq with h1 | h1 | h1 | h1 | h1 | h1 | h1 <;> simp [h1]
  · simp only [List.mem_cons] at hq
    rcases hq with rfl | rfl | rfl | rfl | rfl | hq
    · exact x4
    · exact x5
    · exact x6
    · exact Nat.ne_of_gt (Nat.lt_trans lI lz)
    · exact Nat.ne_of_gt lI
    · exact offI q hq
  · simp only [List.mem_cons] at hq
    rcases hq with rfl | rfl | hq
    · exact ⟨Nat.ne_of_gt (Nat.lt_trans lt lz), Nat.ne_of_gt (Nat.lt_trans lm lz), Nat.ne_of_gt (Nat.lt_trans l7 lz)⟩
    · exact ⟨Nat.ne_of_gt lt, Nat.ne_of_gt lm, Nat.ne_of_gt l7⟩
    · exact off q hq
  · exact hT.mono s2
  · show DatAll _ (mv ++ [.ref lx]) ((st.M ++ [baseOf lf st.T + cntF (passB (kd, lf, pt)) st.R]).map meetD)
    rw [List.map_append]
    exact (hM.mono s2).append (.cons (.list (.tail _ (.head _)) (.cons (.int _ _) (.cons (.int _ _) .nil))) .nil)
  · show DatAll _ ((tv.drop (baseOf lf st.T)).take st.R.length) ((part lf (passB (kd, lf, pt)) st.R).map cardD)
    have e := tab_slice lf st.T (part lf (passB (kd, lf, pt)) st.R)
    rw [part_length] at e
    rw [← e, List.map_take, List.map_drop]
    exact DatAll.take (DatAll.drop (hT.mono s2) _) _
section
variable {w : World} {A : Around} {base h₀ : Heap} {outer : List Env} {L : Addr} {s : Shared} {m mg mb : Str → Option Value} {p : Program} {loose : List Str} {mean : ExcName → Option Value} {Q : Flow → Shared → Prop}
set_option maxRecDepth 100000 in
set_option maxHeartbeats 2000000 in
theorem pass_rest {kd pt : Int} {lf : Bool} {t me I f : Addr} {it : Obj} {tv mv : List Value} {n1 n2 : Nat} {ps : Array Value} {st : LaidSt} {rest rest2 : List (Addr × Obj)} {s₁ : Shared} {t1 t2 : Tok} {hp1 : Heap} {tk1 : Nat}
   (B : Below A base outer h₀) (F : Fr h₀ L hp1 m) (X₀ : (hd.heap_39 w.params).In h₀) (N : News h₀ L hp1 ((t, listOf (List.toArray tv) n1) :: (me, listOf (List.toArray mv) n2) :: (73, tabObj ps) :: (I, it) :: rest2)) (hTop : Top p loose mean mg mb h₀)
   (hroom : A.depth + 50 < recursionLimit) (sub : ∀ q ∈ rest, q ∈ rest2) (off : ∀ q ∈ rest2, q.1 ≠ t ∧ q.1 ≠ me ∧ q.1 ≠ 73) (offI : ∀ q ∈ rest2, q.1 ≠ I) (x1 : (t : Nat) ≠ me) (x2 : (t : Nat) ≠ 73) (x3 : (me : Nat) ≠ 73) (x4 : (t : Nat) ≠ I) (x5 : (me : Nat) ≠ I) (x6 : (73 : Nat) ≠ I)
   (hT : DatAll rest2 tv ((tabOf lf st.T (part lf (passB (kd, lf, pt)) st.R)).map cardD)) (hM : DatAll rest2 mv (st.M.map meetD)) (hV : ViewIn rest2 f kd pt) (hI : TabInv rest2 ps) (hp : 0 ≤ pt ∧ pt ≤ 256) (hsz : st.T.length + st.R.length < 10000) (hsm : st.M.length < 10000)
   (mt : m (Str.ofString "table") = some (.ref t)) (mm : m (Str.ofString "meets") = some (.ref me)) (mb : m (Str.ofString "base") = some (.int (baseOf lf st.T : Nat) t1)) (md : m (Str.ofString "done") = some (.int (st.R.length : Nat) t2)) (mv' : m (Str.ofString "view") = some (.ref f)) :
   wpAny (model PySem.Challenge.rw_pe0101_01.row.prog w) (A.deeper (laidEnv L)) (execs ((fBody outerFor).drop 4) (laidEnv L)) (TurnEnd h₀ L I it (LaidInv t me rest (laidStep st (kd, lf, pt))) s₁) (fun _ _ => False) { s₁ with heap := hp1, toks := tk1 } := by
  revert X₀
  k_fill
  intro X₀
  have e1 : scopeOf (topStmt 13) = Scope.mk _ _ _ _ _ := rfl
  have e2 : (fBody outerFor).drop 4 = [_, _, _] := rfl
  unfold laidEnv
  rw [e1, e2]
  have hlt := hT.length
  have hlm := hM.length
  rw [List.length_map] at hlt hlm
  rw [tab_length, part_length] at hlt
  have sub2 : ∀ q ∈ rest2, q ∈ (t, listOf (List.toArray tv) n1) :: (me, listOf (List.toArray mv) n2) :: (73, tabObj ps) :: (I, it) :: rest2 := fun q hq => .tail _ (.tail _ (.tail _ (.tail _ hq)))
  have hT2 := hT.mono sub2
  have hV2 := hV.mono sub2
  have offme : ∀ q ∈ rest2, q.1 ≠ me := fun q hq => (off q hq).2.1
  have hc := cnt_le (passB (kd, lf, pt)) st.R
  have hbl : baseOf lf st.T ≤ st.T.length := by cases lf <;> simp [baseOf]
  have htl := tab_length lf st.T (part lf (passB (kd, lf, pt)) st.R)
  rw [part_length] at htl
  have z0 : (0 : Int) ≤ ((baseOf lf st.T : Nat) : Int) := by omega
  have z1 : ((tabOf lf st.T (part lf (passB (kd, lf, pt)) st.R)).length : Int) < 2 ^ 62 := by omega
  have z2 : ((baseOf lf st.T : Nat) : Int) + ((st.R.length : Nat) : Int) ≤ (tabOf lf st.T (part lf (passB (kd, lf, pt)) st.R)).length := by omega
  have z3 : ((baseOf lf st.T : Nat) : Int) ≤ ((baseOf lf st.T + cntF (passB (kd, lf, pt)) st.R : Nat) : Int) := by omega
  have z4 : ((baseOf lf st.T + cntF (passB (kd, lf, pt)) st.R : Nat) : Int) ≤ ((baseOf lf st.T : Nat) : Int) + ((st.R.length : Nat) : Int) := by omega
  have q1 : ∀ (j : Nat) (c : Card), ((baseOf lf st.T : Nat) : Int) ≤ j → (j : Int) < ((baseOf lf st.T + cntF (passB (kd, lf, pt)) st.R : Nat) : Int) → (tabOf lf st.T (part lf (passB (kd, lf, pt)) st.R))[j]? = some c → viewB kd pt c.1 = false ∧ true = true :=
    fun j c h1 h2 h => ⟨meet_lo (b := passB (kd, lf, pt)) h1 h2 h, rfl⟩
  have q2 : ∀ (j : Nat) (c : Card), ((baseOf lf st.T + cntF (passB (kd, lf, pt)) st.R : Nat) : Int) ≤ j → (j : Int) < ((baseOf lf st.T : Nat) : Int) + ((st.R.length : Nat) : Int) → (tabOf lf st.T (part lf (passB (kd, lf, pt)) st.R))[j]? = some c → ¬ (viewB kd pt c.1 = false ∧ true = true) :=
    fun j c h1 h2 h q => by
      have e := meet_hi (b := passB (kd, lf, pt)) h1 (by omega) h
      have e' : viewB kd pt c.1 = true := e
      rw [e'] at q; cases q.1
  have q3 : ∀ (j : Nat) (c : Card), ((baseOf lf st.T : Nat) : Int) ≤ j → (j : Int) < ((baseOf lf st.T + cntF (passB (kd, lf, pt)) st.R : Nat) : Int) → (tabOf lf st.T (part lf (passB (kd, lf, pt)) st.R))[j]? = some c → ¬ (false = false ∧ viewB kd pt c.1 = true) :=
    fun j c h1 h2 h q => by
      have e := meet_lo (b := passB (kd, lf, pt)) h1 h2 h
      have e' : viewB kd pt c.1 = false := e
      rw [e'] at q; cases q.2
  have q4 : ∀ (j : Nat) (c : Card), ((baseOf lf st.T + cntF (passB (kd, lf, pt)) st.R : Nat) : Int) ≤ j → (j : Int) < ((baseOf lf st.T : Nat) : Int) + ((st.R.length : Nat) : Int) → (tabOf lf st.T (part lf (passB (kd, lf, pt)) st.R))[j]? = some c → false = false ∧ viewB kd pt c.1 = true :=
    fun j c h1 h2 h => ⟨rfl, meet_hi (b := passB (kd, lf, pt)) h1 (by omega) h⟩
  refine wpAny_stop ?_
  k_steps
  rename_i lx hx Fx Nx l1
  have hlx : lx ≠ me := Nat.ne_of_gt l1.2.1
  have offx : ∀ q ∈ (73, tabObj ps) :: (I, it) :: rest2, q.1 ≠ me := fun q hq => by
    rcases List.mem_cons.mp hq with rfl | hq
    · exact fun e => x3 e.symm
    · rcases List.mem_cons.mp hq with rfl | hq
      · exact fun e => x5 e.symm
      · exact offme q hq
  refine append_K Fx Nx (.tail hlx (.tail x1 (.head offx))) ?_ (by rw [List.size_toArray, sizeLine_eq]; omega)
  intro hy Fy Ny
  rw [List.push_toArray] at Ny
  clear Fx Nx
  k_steps
  rename_i ld hw Fw Nw
  exact pass_end sub off offI x4 x5 x6 hT hM hI l1.1 l1.2.1 l1.2.2.1 l1.2.2.2.1 (ld _ (.head _)) (by omega) (by omega) Fw Nw mt mm rfl
end
end Mine
end PartL3a

section PartL3
open PySem PySem.W PyProof.Rows
namespace Mine
local macro_rules | `(tactic| k_mem) => `(tactic| with_reducible assumption)
local macro_rules | `(tactic| walk_at "eval Name") => `(tactic| (k_here; k_dflt (refine' ld ?F ?v ?_; (case F => k_asm); (case v => first | exact rfl | assumption); k_whole)))
local macro_rules | `(tactic| walk_at "call builtin:len") => `(tactic| (k_here; k_dflt (refine' my_len ?N ?l ?e ?b ?_; (case N => k_asm); (case l => k_mem); (case e => with_reducible assumption); (case b => with_reducible assumption); k_whole); intro t' tk'))
local macro_rules | `(tactic| walk_at "exec For Name Name cons nil") => `(tactic| (refine Hold.out ?_))
local macro_rules | `(tactic| walk_at "call ref") => `(tactic| (k_here; k_dflt (refine' c_view ?B ?F ?X ?N ?T ?C ?hf ?hk ?r ?o ?hI ?_; (case B => k_asm); (case F => k_asm); (case X => k_asm); (case N => k_asm); (case T => k_asm); (case C => k_asm); (case hf => rfl); (case hk => rfl); (case r => ((try simp only [depth_deeper]); omega)); (case o => with_reducible assumption); (case hI => with_reducible assumption); k_whole); intro h' tk' f' ps' nw' F' N' hn' hi' hv'))
section
variable {w : World} {A : Around} {base h₀ : Heap} {outer : List Env} {L : Addr} {s : Shared} {m mg mb : Str → Option Value} {p : Program} {loose : List Str} {mean : ExcName → Option Value} {Q : Flow → Shared → Prop}
set_option maxRecDepth 100000 in
/-- from the inner loop to the turn's end -/
theorem hold_end {kd pt : Int} {lf : Bool} {t me I f ra : Addr} {it : Obj} {tv mv rv : List Value} {n1 n2 nr : Nat} {ps ps0 : Array Value} {st : LaidSt} {rest rest' new : List (Addr × Obj)} {s₁ : Shared} {t1 t2 : Tok} {h2 : Heap} {tk2 : Nat} {m2 : Str → Option Value}
   (B : Below A base outer h₀) (F : Fr h₀ L h2 m2) (X₀ : (hd.heap_39 w.params).In h₀) (N : News h₀ L h2 ((73, tabObj ps) :: ([(t, listOf (List.toArray tv) n1), (me, listOf (List.toArray mv) n2), (I, it)] ++ (new ++ rest')))) (hTop : Top p loose mean mg mb h₀)
   (hroom : A.depth + 50 < recursionLimit) (hh : A.handled = none) (sub : ∀ q ∈ rest, q ∈ rest') (off : ∀ q ∈ rest', q.1 ≠ t ∧ q.1 ≠ me ∧ q.1 ≠ 73) (offI : ∀ q ∈ rest', q.1 ≠ I) (x0 : (t : Nat) ≠ 73 ∧ (me : Nat) ≠ 73 ∧ (t : Nat) ≠ me) (x4 : (t : Nat) ≠ I) (x5 : (me : Nat) ≠ I) (x6 : (73 : Nat) ≠ I)
   (hn : ∀ q ∈ new, ∀ r ∈ (73, tabObj ps0) :: ([(t, listOf (List.toArray tv) n1), (me, listOf (List.toArray mv) n2), (I, it)] ++ rest'), r.1 < q.1)
   (hT : DatAll rest' tv (st.T.map cardD)) (hM : DatAll rest' mv (st.M.map meetD)) (hR : DatAll rest' rv (st.R.map cardD)) (hra : (ra, listOf (List.toArray rv) nr) ∈ rest') (hV : ViewIn (new ++ rest') f kd pt) (hI : TabInv (new ++ rest') ps) (hp : 0 ≤ pt ∧ pt ≤ 256) (hsz : st.T.length + st.R.length < 10000) (hsm : st.M.length < 10000)
   (mt : m2 (Str.ofString "table") = some (.ref t)) (mm : m2 (Str.ofString "meets") = some (.ref me)) (mr : m2 (Str.ofString "row") = some (.ref ra)) (ml : m2 (Str.ofString "left") = some (.bool lf)) (mb : m2 (Str.ofString "base") = some (.int (baseOf lf st.T : Nat) t1)) (md : m2 (Str.ofString "done") = some (.int 0 t2)) (mv' : m2 (Str.ofString "view") = some (.ref f)) :
   Hold (wpAny (model PySem.Challenge.rw_pe0101_01.row.prog w) (A.deeper (laidEnv L)) (exec innerFor (laidEnv L)) (fun f s' => match f with
     | .next => wpAny (model PySem.Challenge.rw_pe0101_01.row.prog w) (A.deeper (laidEnv L)) (execs ((fBody outerFor).drop 4) (laidEnv L)) (Stop (TurnEnd h₀ L I it (LaidInv t me rest (laidStep st (kd, lf, pt))) s₁)) (fun _ _ => False) s'
     | f => Stop (TurnEnd h₀ L I it (LaidInv t me rest (laidStep st (kd, lf, pt))) s₁) f s') (fun _ _ => False) { s₁ with heap := h2, toks := tk2 }) := by
  show wpAny _ _ _ _ _ _
  have N2 : News h₀ L h2 ((t, listOf (List.toArray tv) n1) :: (me, listOf (List.toArray mv) n2) :: (73, tabObj ps) :: (I, it) :: (new ++ rest')) := fun q hq => N q (by
    simp only [List.mem_cons, List.cons_append, List.nil_append] at hq ⊢
    rcases hq with h1 | h1 | h1 | h1 | h1 <;> simp [h1])
  have g1 : ∀ q ∈ new, t < q.1 ∧ me < q.1 ∧ 73 < q.1 ∧ I < q.1 := fun q hq => ⟨hn q hq _ (.tail _ (.head _)), hn q hq _ (.tail _ (.tail _ (.head _))), hn q hq _ (.head _), hn q hq _ (.tail _ (.tail _ (.tail _ (.head _))))⟩
  have off2 : ∀ q ∈ new ++ rest', q.1 ≠ t ∧ q.1 ≠ me ∧ q.1 ≠ 73 := fun q hq => by
    rcases List.mem_append.mp hq with hq | hq
    · exact ⟨Nat.ne_of_gt (g1 q hq).1, Nat.ne_of_gt (g1 q hq).2.1, Nat.ne_of_gt (g1 q hq).2.2.1⟩
    · exact off q hq
  have offI2 : ∀ q ∈ new ++ rest', q.1 ≠ I := fun q hq => by
    rcases List.mem_append.mp hq with hq | hq
    · exact Nat.ne_of_gt (g1 q hq).2.2.2
    · exact offI q hq
  have s2 : ∀ q ∈ rest', q ∈ new ++ rest' := fun q hq => List.mem_append_right _ hq
  have s3 : ∀ q ∈ new ++ rest', q ∈ (me, listOf (List.toArray mv) n2) :: (73, tabObj ps) :: (I, it) :: (new ++ rest') := fun q hq => .tail _ (.tail _ (.tail _ hq))
  have offt : ∀ q ∈ (me, listOf (List.toArray mv) n2) :: (73, tabObj ps) :: (I, it) :: (new ++ rest'), q.1 ≠ t := fun q hq => by
    simp only [List.mem_cons] at hq
    rcases hq with rfl | rfl | rfl | hq
    · exact fun e => x0.2.2 e.symm
    · exact fun e => x0.1 e.symm
    · exact fun e => x4 e.symm
    · exact (off2 q hq).1
  refine inner_loop B F X₀ N2 hTop (by omega) hh offt s3 (hT.mono s2) (hR.mono s2) (s3 _ (s2 _ hra)) (hV.mono s3) hp hsz mt mr ml mb md mv' ?_
  intro h3 tk3 m3 tv3 n3 td3 F3 N3 hD3 md3 hm3
  show wpAny _ _ _ _ _ _
  exact pass_rest B F3 X₀ N3 hTop hroom (fun q hq => s2 q (sub q hq)) off2 offI2 x0.2.2 x0.1 x0.2.1 x4 x5 x6 hD3 (hM.mono s2) hV hI hp hsz hsm ((hm3 _ (by decide) (by decide)).trans mt) ((hm3 _ (by decide) (by decide)).trans mm) ((hm3 _ (by decide) (by decide)).trans mb) md3 ((hm3 _ (by decide) (by decide)).trans mv')
set_option maxRecDepth 100000 in
set_option maxHeartbeats 2000000 in
theorem outer_loop {t me pa : Addr} {pv : List Value} {np : Nat} {cs : List Card} {qs : List Pass} {rest nw₀ : List (Addr × Obj)}
   (B : Below A base outer h₀) (F : Fr h₀ L s.heap m) (X₀ : (hd.heap_39 w.params).In h₀) (N : News h₀ L s.heap nw₀) (hTop : Top p loose mean mg mb h₀) (C : CodeHd h₀ 77 73)
   (hroom : A.depth + 50 < recursionLimit) (hh : A.handled = none) (hP : DatAll rest pv (qs.map passD)) (hpa : (pa, listOf pv.toArray np) ∈ rest) (hq : ∀ q ∈ qs, 0 ≤ q.2.2 ∧ q.2.2 ≤ 256) (hsz : (qs.length + 1) * (cs.length + 1) < 5000)
   (mp : m (Str.ofString "passes") = some (.ref pa)) (x0 : (t : Nat) ≠ 73 ∧ (me : Nat) ≠ 73 ∧ (t : Nat) ≠ me) (h0 : LaidInv t me rest ⟨[], [], cs⟩ m nw₀)
   (hQ : ∀ h' tk m' nw, Fr h₀ L h' m' → News h₀ L h' nw → LaidInv t me rest (qs.foldl laidStep ⟨[], [], cs⟩) m' nw → Q .next { s with heap := h', toks := tk }) :
   wpAny (model PySem.Challenge.rw_pe0101_01.row.prog w) (A.deeper (laidEnv L)) (exec outerFor (laidEnv L)) Q (fun _ _ => False) s := by
  revert X₀
  k_fill
  intro X₀
  have e1 : scopeOf (topStmt 13) = Scope.mk _ _ _ _ _ := rfl
  have e2 : outerFor = Stmt.For (PySem.Expr.Tuple _ _ _) (PySem.Expr.Name _ _) [_, _, _, _, _, _, _] [] _ := rfl
  unfold laidEnv
  rw [e1, e2]
  refine wpAny_For ?_
  refine ld F mp ?_
  have hlen := hP.length
  rw [List.length_map] at hlen
  refine for_list (vs := pv) (fun i m' nw => LaidInv t me rest ((qs.take i).foldl laidStep ⟨[], [], cs⟩) m' nw) hh F N h0 ?_ (go_tuple (dat_refs hP)) ?_ ?_
  · rintro i m' nw ⟨tv, n1, mv, n2, ps, rest', ra, rv, nr, rfl, sub, _⟩
    exact ⟨np, .tail _ (.tail _ (.tail _ (sub _ hpa)))⟩
  · rintro i v I it m' nw h tk hv ⟨tv, n1, mv, n2, ps, rest', ra, rv, nr, rfl, sub, off, hT, hM, hra, hR, hI, mt, mm, mr⟩ hoffI _ F' N'
    have hi : i < qs.length := by rw [← hlen]; exact (List.getElem?_eq_some_iff.mp hv).1
    obtain ⟨v', hv', hd'⟩ := dat_at hP (List.getElem?_eq_getElem hi)
    rw [hv] at hv'
    cases hv'
    obtain ⟨qa, qn, tx, ty, rfl, hqm⟩ := pass_inv hd'
    have hqb := hq _ (List.getElem_mem hi)
    have hsz2 := laid_sizes (qs.take i) ⟨[], [], cs⟩
    have hsn := laid_snoc ⟨[], [], cs⟩ qs (List.getElem?_eq_getElem hi)
    generalize hst : (qs.take i).foldl laidStep ⟨[], [], cs⟩ = st at *
    generalize hqq : qs[i] = q at *
    obtain ⟨kd, lf, pt⟩ := q
    dsimp only at hqm hqb
    have N2 : News h₀ L h ((73, tabObj ps) :: ([(t, listOf (List.toArray tv) n1), (me, listOf (List.toArray mv) n2), (I, it)] ++ rest')) := fun q hq => N' q (by
      simp only [List.mem_cons, List.cons_append, List.nil_append] at hq ⊢
      rcases hq with h1 | h1 | h1 | h1 | h1 <;> simp [h1])
    have hqm' := sub _ hqm
    have hl2 : h.IsList qa #[.int kd tx, .bool lf, .int pt ty] := ⟨_, N'.get (.tail _ (.tail _ (.tail _ (.tail _ hqm')))), rfl, _, rfl⟩
    have y1 : (t : Nat) ≠ 73 ∧ (me : Nat) ≠ 73 ∧ (t : Nat) ≠ me := x0
    have y2 := hoffI _ (.head _)
    have y3 := hoffI _ (.tail _ (.head _))
    have y4 := hoffI _ (.tail _ (.tail _ (.head _)))
    have o1 : ∀ q ∈ [(t, listOf (List.toArray tv) n1), (me, listOf (List.toArray mv) n2), (I, it)] ++ rest', q.1 ≠ 73 := fun q hq => by
      simp only [List.mem_cons, List.cons_append, List.nil_append] at hq
      rcases hq with rfl | rfl | rfl | hq
      · exact y1.1
      · exact y1.2.1
      · exact y4.symm
      · exact (off q hq).2.2
    have hlt := hT.length
    rw [List.length_map] at hlt
    obtain ⟨sz1, sz2, sz3⟩ := hsz2
    simp only [List.length_nil, Nat.zero_add, List.length_take] at sz1 sz2 sz3
    have sz4 : st.T.length + st.R.length < 10000 := by
      have hm : min i qs.length * cs.length ≤ qs.length * cs.length := Nat.mul_le_mul_right _ (Nat.min_le_right ..)
      have he : (qs.length + 1) * (cs.length + 1) = qs.length * cs.length + qs.length + cs.length + 1 := by rw [Nat.add_mul, Nat.mul_add]; omega
      omega
    have sz5 : st.M.length < 10000 := by
      have he : (qs.length + 1) * (cs.length + 1) = qs.length * cs.length + qs.length + cs.length + 1 := by rw [Nat.add_mul, Nat.mul_add]; omega
      omega
    have zb : (st.T.length : Int) < 2 ^ 62 := by omega
    clear N'
    refine wpAny_mono (Q := fun _ s₂ => wpAny _ _ _ (Stop (TurnEnd _ _ _ _ _ _)) _ s₂) ?_ (fun _ _ h => h) (fun _ _ h => h)
    refine kun_list F' N2 hl2 hh rfl rfl ?_
    intro h1 F1 N1
    clear F' N2
    rw [hsn]
    cases lf with
    | true =>
      k_steps
      rename ViewIn _ _ _ _ => hv
      rename TabInv _ _ => hi
      rename Fr _ _ _ _ => Fx
      rename News _ _ _ _ => Nx
      exact hold_end B Fx X₀ Nx hTop hroom hh sub off (fun q hq => hoffI q (.tail _ (.tail _ (.tail _ hq)))) y1 y2 y3 y4 (by assumption) hT hM hR hra hv hi hqb sz4 sz5 mt mm mr rfl rfl rfl rfl
    | false =>
      k_steps
      rename ViewIn _ _ _ _ => hv
      rename TabInv _ _ => hi
      rename Fr _ _ _ _ => Fx
      rename News _ _ _ _ => Nx
      exact hold_end B Fx X₀ Nx hTop hroom hh sub off (fun q hq => hoffI q (.tail _ (.tail _ (.tail _ hq)))) y1 y2 y3 y4 (by assumption) hT hM hR hra hv hi hqb sz4 sz5 mt mm mr rfl rfl rfl rfl
  · rintro m' nw h tk hJ F' N'
    rw [hlen, List.take_length] at hJ
    exact hQ h tk m' nw F' N' hJ
end
end Mine
end PartL3

section PartL4
open PySem PySem.W PyProof.Rows
namespace Mine
local macro_rules | `(tactic| k_mem) => `(tactic| with_reducible assumption)
local macro_rules | `(tactic| walk_at "eval Name") => `(tactic| (k_here; k_dflt (refine' ld ?F ?v ?_; (case F => k_asm); (case v => first | exact rfl | assumption); k_whole)))
local macro_rules | `(tactic| walk_at "exec For Tuple Name cons nil") => `(tactic| (refine Hold.out ?_))
def resD (T : List Card) (M : List Nat) : Dat := .list [.list (T.map cardD), .list (M.map meetD)]
theorem allLt_out {d : Addr} : ∀ {l : List (Addr × Obj)}, AllLt d l → ∀ q ∈ l, q.1 < d
  | [], _, _, h => nomatch h
  | _ :: _, x, q, h => by
    rcases List.mem_cons.mp h with rfl | h
    · exact x.1
    · exact allLt_out x.2 q h
theorem laid_init {g h : Heap} {L t me ca : Addr} {m : Str → Option Value} {news : List (Addr × Obj)} {ps : Array Value} {cv : List Value} {nc n1 n2 : Nat} {cs : List Card} (_F : Fr g L h m) (N : News g L h ((me, listOf #[] n1) :: (t, listOf #[] n2) :: (73, tabObj ps) :: news)) (la : t < me ∧ 73 < me ∧ AllLt me news) (lb : 73 < t ∧ AllLt t news)
    (off : ∀ q ∈ news, q.1 ≠ 73) (hI : TabInv news ps) (hca : (ca, listOf cv.toArray nc) ∈ news) (hC : DatAll news cv (cs.map cardD)) (mt : m (Str.ofString "table") = some (.ref t)) (mm : m (Str.ofString "meets") = some (.ref me)) (mr : m (Str.ofString "row") = some (.ref ca)) :
    ∃ nw₀, News g L h nw₀ ∧ LaidInv t me news ⟨[], [], cs⟩ m nw₀ ∧ ((t : Nat) ≠ 73 ∧ (me : Nat) ≠ 73 ∧ (t : Nat) ≠ me) :=
  ⟨(t, listOf (List.toArray []) n2) :: (me, listOf (List.toArray []) n1) :: (73, tabObj ps) :: news, fun q hq => N q (by
      simp only [List.mem_cons] at hq ⊢
      rcases hq with h1 | h1 | h1 | h1 <;> simp [h1]),
    ⟨[], n2, [], n1, ps, news, ca, cv, nc, rfl, fun _ h => h, fun q hq => ⟨Nat.ne_of_lt (allLt_out lb.2 q hq), Nat.ne_of_lt (allLt_out la.2.2 q hq), off q hq⟩, .nil, .nil, hca, hC, hI, mt, mm, mr⟩,
    ⟨Nat.ne_of_gt lb.1, Nat.ne_of_gt la.2.1, Nat.ne_of_lt la.1⟩⟩
theorem laid_fin {h₀ h' : Heap} {L t me x : Addr} {m : Str → Option Value} {news rest' : List (Addr × Obj)} {ps : Array Value} {tv mv : List Value} {n1 n2 n3 : Nat} {st : LaidSt} {R : Prop}
    (h : ∀ news', Fr h₀ L h' m → News h₀ L h' ((73, tabObj ps) :: news') → (∀ q ∈ news, q ∈ news') → (∀ q ∈ news', q.1 ≠ 73) → TabInv news' ps → DatIn news' (.ref x) (resD st.T st.M) → R)
    (F : Fr h₀ L h' m) (N : News h₀ L h' ((x, listOf #[.ref t, .ref me] n3) :: (t, listOf (List.toArray tv) n1) :: (me, listOf (List.toArray mv) n2) :: (73, tabObj ps) :: rest')) (la : t < x ∧ me < x ∧ 73 < x ∧ AllLt x rest')
    (x0 : (t : Nat) ≠ 73 ∧ (me : Nat) ≠ 73 ∧ (t : Nat) ≠ me) (sub : ∀ q ∈ news, q ∈ rest') (off : ∀ q ∈ rest', q.1 ≠ t ∧ q.1 ≠ me ∧ q.1 ≠ 73) (hT : DatAll rest' tv (st.T.map cardD)) (hM : DatAll rest' mv (st.M.map meetD)) (hI : TabInv rest' ps) : R := by
  have s3 : ∀ q ∈ rest', q ∈ (x, listOf #[.ref t, .ref me] n3) :: (t, listOf (List.toArray tv) n1) :: (me, listOf (List.toArray mv) n2) :: rest' := fun q hq => .tail _ (.tail _ (.tail _ hq))
  refine h _ F (fun q hq => N q ?_) (fun q hq => s3 q (sub q hq)) (fun q hq => ?_) (hI.mono s3) ?_
  · simp only [List.mem_cons] at hq ⊢
    rcases hq with h1 | h1 | h1 | h1 | h1 <;> simp [h1]
  · simp only [List.mem_cons] at hq
    rcases hq with rfl | rfl | rfl | hq
    · exact Nat.ne_of_gt la.2.2.1
    · exact x0.1
    · exact x0.2.1
    · exact (off q hq).2.2
  · exact .list (.head _) (.cons (.list (.tail _ (.head _)) (hT.mono s3)) (.cons (.list (.tail _ (.tail _ (.head _))) (hM.mono s3)) .nil))
section
variable {w : World} {A : Around} {base h₀ : Heap} {outer : List Env} {env : Env} {L : Addr} {s : Shared} {m mg mb : Str → Option Value} {news : List (Addr × Obj)} {p : Program} {loose : List Str} {mean : ExcName → Option Value} {Q : Value → Shared → Prop} {E : Value → Shared → Prop}
set_option maxRecDepth 100000 in
set_option maxHeartbeats 1000000 in
theorem c_laid {ca pa : Addr} {cv pv : List Value} {nc np : Nat} {cs : List Card} {qs : List Pass} {ps : Array Value} (B : Below A base outer h₀) (F : Fr h₀ L s.heap m) (X₀ : (hd.heap_39 w.params).In h₀) (N : News h₀ L s.heap ((73, tabObj ps) :: news)) (T : Top p loose mean mg mb h₀) (C : CodeHd h₀ 77 73) (hf : env.frame = some L) (hke : env.scope.kind = .function)
   (hroom : A.depth + 60 < recursionLimit) (hh : A.handled = none) (off : ∀ q ∈ news, q.1 ≠ 73) (hI : TabInv news ps) (hca : (ca, listOf cv.toArray nc) ∈ news) (hC : DatAll news cv (cs.map cardD)) (hpa : (pa, listOf pv.toArray np) ∈ news) (hP : DatAll news pv (qs.map passD))
   (hq : ∀ q ∈ qs, 0 ≤ q.2.2 ∧ q.2.2 ≤ 256) (hsz : (qs.length + 1) * (cs.length + 1) < 5000)
   (h : ∀ h' tk x ps' news', Fr h₀ L h' m → News h₀ L h' ((73, tabObj ps') :: news') → (∀ q ∈ news, q ∈ news') → (∀ q ∈ news', q.1 ≠ 73) → TabInv news' ps' → DatIn news' (.ref x) (resD (qs.foldl laidStep ⟨[], [], cs⟩).T (qs.foldl laidStep ⟨[], [], cs⟩).M) → Q (.ref x) { s with heap := h', toks := tk }) :
   wpAny (model PySem.Challenge.rw_pe0101_01.row.prog w) (A.deeper env) (call (.ref 85) [.ref ca, .ref pa] []) Q E s := by
  revert X₀
  k_fill
  intro X₀
  refine wpAny_call ?_
  refine' code_def B F X₀ N T (Around.frames_deeper B.stack) hf hke ?k6 ?k7 (by show A.depth + 1 < _; omega) ?k9 ?kB ?_ ?c2 ?c3 ?c4 ?c5
  (case k6 => k_is); (case k7 => k_is);  (case k9 => exact BindsTo.of_eq rfl); (case c5 => decide); (case kB => exact locs rfl); (case c2 => exact rfl); (case c3 => exact rfl); (case c4 => exact rfl)
  intro g' L' h' FG' F' N' B' X' T'; (try dsimp only)
  refine wpAny_mono (E := fun _ _ => False) ?_ (fun _ _ h => h) (fun _ _ h => h.elim)
  have C' := C.keeps FG'.keep
  k_steps
  rename (_ ∧ _ ∧ AllLt _ _) => la
  rename (_ ∧ AllLt _ _) => lb
  rename Fr _ _ _ _ => Fx
  rename News _ _ _ _ => Nx
  obtain ⟨nw₀, N0, J0, x0⟩ := laid_init (cs := cs) Fx Nx la lb off hI hca hC rfl rfl rfl
  show wpAny _ _ _ _ _ _
  refine outer_loop B' Fx X' N0 T' C' (by simp only [depth_deeper]; omega) hh hP hpa hq hsz rfl x0 J0 ?_
  intro h3 tk3 m3 nw3 F3 N3 J3
  clear Fx Nx N0 J0
  obtain ⟨tv, n1, mv, n2, ps3, rest', ra, rv, nr, rfl, sub, off3, hT, hM, hra, hR, hI3, mt, mm, mr⟩ := J3
  show wpAny _ _ _ _ _ _
  k_steps
  exact laid_fin (h _ _ _ _) (by assumption) (by assumption) (by assumption) x0 sub off3 hT hM hI3
end
end Mine
end PartL4

section PartR1
open PySem PySem.W PyProof.Rows
namespace Mine
def yesB (k pt v : Int) : Bool := if k = 2 then decide (v.fmod ((512 : Int).fdiv pt) = 0) else decide ((v.fdiv ((256 : Int).fdiv pt)).fmod 2 = k)
theorem fdiv_pos {n pt : Int} (h : 1 ≤ pt) (h2 : pt ≤ n) : n.fdiv pt ≠ 0 := by
  rw [Int.fdiv_eq_ediv_of_nonneg n (by omega)]
  have : 1 ≤ n / pt := by
    rw [Int.le_ediv_iff_mul_le (by omega)]; omega
  omega
theorem fdiv_le {n pt : Int} (h : 1 ≤ pt) (hn : 0 ≤ n) : 0 ≤ n.fdiv pt ∧ n.fdiv pt ≤ n := by
  rw [Int.fdiv_eq_ediv_of_nonneg n (by omega)]
  exact ⟨Int.ediv_nonneg hn (by omega), Int.ediv_le_self _ hn⟩
local macro_rules | `(tactic| walk_at "binaryOp FloorDiv int int") => `(tactic| (k_here; (with_reducible refine floordiv_int ?hd ?_ ?hp); (case hd => with_reducible assumption); (case hp => with_reducible assumption)))
local macro_rules | `(tactic| walk_at "binaryOp FloorDiv int int") => `(tactic| (k_here; (with_reducible refine floordiv_int ?hd ?_ ?hp); (case hd => with_reducible assumption); (case hp => exact Or.inl (by with_reducible assumption))))
section
variable {w : World} {A : Around} {base h₀ : Heap} {outer : List Env} {env : Env} {L : Addr} {s : Shared} {m mg mb : Str → Option Value} {news : List (Addr × Obj)} {p : Program} {loose : List Str} {mean : ExcName → Option Value} {Q : Value → Shared → Prop} {E : Value → Shared → Prop}
set_option maxRecDepth 100000 in
set_option maxHeartbeats 1000000 in
theorem c_yes {k pt v : Int} {t1 t2 t3 : Tok} (B : Below A base outer h₀) (F : Fr h₀ L s.heap m) (X₀ : (hd.heap_39 w.params).In h₀) (N : News h₀ L s.heap news) (T : Top p loose mean mg mb h₀) (hf : env.frame = some L) (hke : env.scope.kind = .function)
   (hroom : A.depth + 5 < recursionLimit) (hp : 1 ≤ pt ∧ pt ≤ 256)
   (h : ∀ h' tk, Fr h₀ L h' m → News h₀ L h' news → Q (.bool (yesB k pt v)) { s with heap := h', toks := tk }) :
   wpAny (model PySem.Challenge.rw_pe0101_01.row.prog w) (A.deeper env) (call (.ref 92) [.int k t1, .int pt t2, .int v t3] []) Q E s := by
  revert X₀
  k_fill
  intro X₀
  have d4 : Builtin.divisionGoesByPylong v ((256 : Int).fdiv pt) = false := PyProof.noPylong_small (by have := fdiv_le (n := 256) hp.1 (by decide); omega)
  have d5 : Builtin.divisionGoesByPylong 512 pt = false := PyProof.noPylong_small (by omega)
  have d6 : Builtin.divisionGoesByPylong 256 pt = false := PyProof.noPylong_small (by omega)
  have d1 : pt ≠ 0 := by omega
  have d2 := fdiv_pos (n := 512) hp.1 (by omega)
  have d3 := fdiv_pos (n := 256) hp.1 (by omega)
  refine wpAny_call ?_
  refine' code_def B F X₀ N T (Around.frames_deeper B.stack) hf hke ?k6 ?k7 (by show A.depth + 1 < _; omega) ?k9 ?kB ?_ ?c2 ?c3 ?c4 ?c5
  (case k6 => k_is); (case k7 => k_is);  (case k9 => exact BindsTo.of_eq rfl); (case c5 => decide); (case kB => exact locs rfl); (case c2 => exact rfl); (case c3 => exact rfl); (case c4 => exact rfl)
  intro g' L' h' FG' F' N' B' X' T'; (try dsimp only)
  refine wpAny_mono (E := fun _ _ => False) ?_ (fun _ _ h => h) (fun _ _ h => h.elim)
  (try k_fold)
  k_steps
  · rename (k = 2) => hk
    have := h
    simp only [yesB, hk, if_true] at this
    exact this _ _ (by assumption) (by assumption)
  · rename (k ≠ 2) => hk
    have := h
    simp only [yesB, hk, if_false] at this
    exact this _ _ (by assumption) (by assumption)
end
end Mine
end PartR1

section PartP3
namespace Mine
/-- the signs of one card, by the passes from the last to the first -/
def signStep (v : Int) (acc : List Int × Bool) (q : Pass) : List Int × Bool := (acc.1 ++ [if yesB q.1 q.2.2 v == acc.2 then 0 else 1], acc.2 != q.2.1)
def signsOf (v : Int) (rev : List Pass) : List Int × Bool := rev.foldl (signStep v) ([], false)
theorem signs_snoc (v : Int) (rev : List Pass) {i : Nat} {q : Pass} (h : rev[i]? = some q) : signsOf v (rev.take (i + 1)) = signStep v (signsOf v (rev.take i)) q := by
  unfold signsOf
  rw [List.take_add_one, h]; simp
/-- what is laid in ranked for one card -/
def rankD (qs : List Pass) (c : Card) : PySem.W.Dat :=
  .list [.list ((signsOf c.1 qs.reverse).1.map .int), .int (if (signsOf c.1 qs.reverse).2 then -c.2 else c.2), .int c.1, .int c.2]
end Mine
end PartP3

section PartR2
open PySem PySem.W PyProof.Rows
namespace Mine
local macro_rules | `(tactic| k_mem) => `(tactic| with_reducible assumption)
def rowFor : Stmt := (bodyOf (topStmt 15)).getD 1 default
def rowInner : Stmt := (fBody rowFor).getD 2 default
abbrev rowEnv (L : Addr) : Env := envOf (Str.ofString "_law_row") (scopeOf (topStmt 15)) L 97 (.ref 96)
theorem my_append {prog : Program} {w : World} {A : Around} {E : Value → Shared → Prop} {s : Shared} {h₀ : Heap} {L D : Addr} {m : Str → Option Value} {news : List (Addr × Obj)} {vs : List Value} {n : Nat} {y : Value} {Q : Value → Shared → Prop}
    (F : Fr h₀ L s.heap m) (N : News h₀ L s.heap ((D, listOf vs.toArray n) :: news)) (hoff : ∀ q ∈ news, q.1 ≠ D) (hz : vs.length < 10000)
    (h : ∀ h', Fr h₀ L h' m → News h₀ L h' ((D, listOf (vs ++ [y]).toArray (n + 1)) :: news) → Q .none { s with heap := h' }) :
    wpAny (model prog w) A (call (.builtin "list.append") [.ref D, y]) Q E s := by
  refine append_K F N (.head hoff) ?_ (by rw [List.size_toArray, sizeLine_eq]; omega)
  intro h' F' N'
  rw [List.push_toArray] at N'
  exact h h' F' N'
local macro_rules | `(tactic| walk_at "call builtin:list.append") => `(tactic| (k_here; k_dflt (refine' my_append ?F ?N ?o ?z ?_; (case F => k_asm); (case N => k_asm); (case o => with_reducible assumption); (case z => omega); k_whole); intro h' F' N'))
local macro_rules | `(tactic| walk_at "eval Name") => `(tactic| (k_here; k_dflt (refine' ld ?F ?v ?_; (case F => k_asm); (case v => first | exact rfl | assumption); k_whole)))
local macro_rules | `(tactic| walk_at "call ref") => `(tactic| (k_here; k_dflt (refine' c_yes ?B ?F ?X ?N ?T ?hf ?hk ?r ?hp ?_; (case B => k_asm); (case F => k_asm); (case X => k_asm); (case N => k_asm); (case T => k_asm); (case hf => rfl); (case hk => rfl); (case r => ((try simp only [depth_deeper]); omega)); (case hp => with_reducible assumption); k_whole); intro h' tk' F' N'))
theorem sign_end {h₀ h' : Heap} {L I sg : Addr} {it : Obj} {s₁ : Shared} {m m' : Str → Option Value} {rest : List (Addr × Obj)} {kd pt v x : Int} {lf tb : Bool} {sg1 : List Int} {sv : List Value} {i n tk : Nat} {tx : Tok} {st : List Int × Bool} (hst : st = signStep v (sg1, tb) (kd, lf, pt))
    (hS : DatAll [] sv (sg1.map .int)) (hsl : sv.length = i) (hI : sg ≠ I) (hIr : ∀ q ∈ rest, q.1 ≠ I) (hx : x = if (yesB kd pt v == tb) = true then 0 else 1)
    (F : Fr h₀ L h' m') (N : News h₀ L h' ((sg, listOf (List.toArray (sv ++ [.int x tx])) n) :: (I, it) :: rest)) (hd : m' (Str.ofString "turned") = some (.bool (tb != lf)))
    (hm : ∀ x, x ≠ Str.ofString "turned" → x ≠ Str.ofString "kind" → x ≠ Str.ofString "left" → x ≠ Str.ofString "part" → m' x = m x) :
    TurnEnd h₀ L I it (fun m' nw => ∃ sv n', nw = (sg, listOf (List.toArray sv) n') :: rest ∧ DatAll [] sv (st.1.map .int) ∧ m' (Str.ofString "turned") = some (.bool st.2) ∧ sv.length = i + 1 ∧
      ∀ x, x ≠ Str.ofString "turned" → x ≠ Str.ofString "kind" → x ≠ Str.ofString "left" → x ≠ Str.ofString "part" → m' x = m x) s₁ .next { s₁ with heap := h', toks := tk } := by
  subst hst hx
  refine ⟨rfl, h', tk, m', (sg, listOf (List.toArray (sv ++ [.int (if (yesB kd pt v == tb) = true then 0 else 1) tx])) n) :: rest, rfl, F, fun q hq => N q ?_, fun q hq => ?_, _, n, rfl, ?_, hd, by simp [hsl], hm⟩
  · simp only [List.mem_cons] at hq ⊢
    rcases hq with h1 | h1 | h1 <;> simp [h1]
  · rcases List.mem_cons.mp hq with rfl | hq
    · exact hI
    · exact hIr q hq
  · unfold signStep
    rw [List.map_append]
    exact hS.append (.cons (.int _ _) .nil)
section
variable {w : World} {A : Around} {base h₀ : Heap} {outer : List Env} {L : Addr} {s : Shared} {m mg mb : Str → Option Value} {p : Program} {loose : List Str} {mean : ExcName → Option Value} {Q : Flow → Shared → Prop}
set_option maxRecDepth 100000 in
set_option maxHeartbeats 2000000 in
theorem row_inner {v : Int} {sg rp : Addr} {pv : List Value} {n nr : Nat} {qs : List Pass} {rest : List (Addr × Obj)} {t1 : Tok}
   (B : Below A base outer h₀) (F : Fr h₀ L s.heap m) (X₀ : (hd.heap_39 w.params).In h₀) (N : News h₀ L s.heap ((sg, listOf #[] n) :: rest)) (hTop : Top p loose mean mg mb h₀)
   (hroom : A.depth + 20 < recursionLimit) (hh : A.handled = none) (hoff : ∀ q ∈ rest, q.1 ≠ sg) (hP : DatAll rest pv (qs.map passD)) (hrp : (rp, listOf pv.toArray nr) ∈ rest) (hq : ∀ q ∈ qs, 1 ≤ q.2.2 ∧ q.2.2 ≤ 256) (hsz : qs.length < 5000)
   (ms : m (Str.ofString "signs") = some (.ref sg)) (mv : m (Str.ofString "value") = some (.int v t1)) (mt : m (Str.ofString "turned") = some (.bool false))
   (hQ : ∀ h' tk m' sv n', Fr h₀ L h' m' → News h₀ L h' ((sg, listOf (List.toArray sv) n') :: rest) → DatAll [] sv ((signsOf v qs).1.map .int) → m' (Str.ofString "turned") = some (.bool (signsOf v qs).2) →
      (∀ x, x ≠ Str.ofString "turned" → x ≠ Str.ofString "kind" → x ≠ Str.ofString "left" → x ≠ Str.ofString "part" → m' x = m x) → Q .next { s with heap := h', toks := tk }) :
   wpAny (model PySem.Challenge.rw_pe0101_01.row.prog w) (A.deeper (rowEnv L)) (pyIter (.ref rp)) (fun it s₂ => codeAny (model PySem.Challenge.rw_pe0101_01.row.prog w) (A.deeper (rowEnv L)) (.forLoop (match rowInner with | .For t _ _ _ _ => t | _ => default) it (fBody rowInner) [] (rowEnv L)) (fun r s' => match r with | .ok f => Q f s' | .error e => cameBackBy (model PySem.Challenge.rw_pe0101_01.row.prog w) (A.deeper (rowEnv L)) (rowEnv L) (fun _ _ => False) e s') s₂) (fun _ _ => False) s := by
  revert X₀
  k_fill
  intro X₀
  have e1 : scopeOf (topStmt 15) = Scope.mk _ _ _ _ _ := rfl
  have e2 : rowInner = Stmt.For (PySem.Expr.Tuple _ _ _) (PySem.Expr.Subscript _ _ _) [_, _] [] _ := rfl
  unfold rowEnv
  rw [e1, e2]
  dsimp only [fBody]
  have hlen := hP.length
  rw [List.length_map] at hlen
  refine for_list (vs := pv) (fun i m' nw => ∃ sv n', nw = (sg, listOf (List.toArray sv) n') :: rest ∧ DatAll [] sv ((signsOf v (qs.take i)).1.map .int) ∧ m' (Str.ofString "turned") = some (.bool (signsOf v (qs.take i)).2) ∧ sv.length = i ∧
      ∀ x, x ≠ Str.ofString "turned" → x ≠ Str.ofString "kind" → x ≠ Str.ofString "left" → x ≠ Str.ofString "part" → m' x = m x) hh F N ⟨[], n, rfl, .nil, mt, rfl, fun _ _ _ _ _ => rfl⟩ ?_ (go_tuple (dat_refs hP)) ?_ ?_
  · rintro i m' nw ⟨sv, n', rfl, _⟩
    exact ⟨nr, .tail _ hrp⟩
  · rintro i v' I it m' nw h tk hv ⟨sv, n', rfl, hS, mt', hsl, hm'⟩ hoffI _ F' N'
    have hi : i < qs.length := by rw [← hlen]; exact (List.getElem?_eq_some_iff.mp hv).1
    obtain ⟨v'', hv', hd'⟩ := dat_at hP (List.getElem?_eq_getElem hi)
    rw [hv] at hv'
    cases hv'
    obtain ⟨qa, qn, tx, ty, rfl, hqm⟩ := pass_inv hd'
    have hqb := hq _ (List.getElem_mem hi)
    have hsn := signs_snoc v qs (List.getElem?_eq_getElem hi)
    generalize hst : signsOf v (qs.take i) = st at *
    generalize hqq : qs[i] = q at *
    obtain ⟨kd, lf, pt⟩ := q
    obtain ⟨sg1, tb⟩ := st
    dsimp only at hqm hqb hS mt'
    have ms' : m' (Str.ofString "signs") = some (.ref sg) := (hm' _ (by decide) (by decide) (by decide) (by decide)).trans ms
    have mv' : m' (Str.ofString "value") = some (.int v t1) := (hm' _ (by decide) (by decide) (by decide) (by decide)).trans mv
    have N2 : News h₀ L h ((sg, listOf (List.toArray sv) n') :: (I, it) :: rest) := fun q hq => N' q (by
      simp only [List.mem_cons] at hq ⊢
      rcases hq with h1 | h1 | h1 <;> simp [h1])
    have hoff2 : ∀ q ∈ (I, it) :: rest, q.1 ≠ sg := fun q hq => by
      rcases List.mem_cons.mp hq with rfl | hq
      · exact (hoffI _ (.head _)).symm
      · exact hoff q hq
    have hl2 : h.IsList qa #[.int kd tx, .bool lf, .int pt ty] := ⟨_, N'.get (.tail _ (.tail _ hqm)), rfl, _, rfl⟩
    clear N'
    rw [hsn]
    refine wpAny_mono (Q := fun _ s₂ => wpAny _ _ _ (Stop (TurnEnd _ _ _ _ _ _)) _ s₂) ?_ (fun _ _ h => h) (fun _ _ h => h)
    refine kun_list F' N2 hl2 hh rfl rfl ?_
    intro h1 F1 N1
    clear F' N2
    k_steps
    · rename ((yesB _ _ _ == _) = true) => hb
      rename Fr _ _ _ _ => Fx
      rename News _ _ _ _ => Nx
      exact sign_end rfl hS hsl (hoffI _ (.head _)) (fun q hq => hoffI q (.tail _ hq)) (by rw [if_pos hb]) Fx Nx rfl (fun x h1 h2 h3 h4 => by simp [h1, h2, h3, h4, hm' x h1 h2 h3 h4])
    · rename ((yesB _ _ _ == _) = false) => hb
      rename Fr _ _ _ _ => Fx
      rename News _ _ _ _ => Nx
      exact sign_end rfl hS hsl (hoffI _ (.head _)) (fun q hq => hoffI q (.tail _ hq)) (by rw [if_neg (by simp [hb])]) Fx Nx rfl (fun x h1 h2 h3 h4 => by simp [h1, h2, h3, h4, hm' x h1 h2 h3 h4])
  · rintro m' nw h tk ⟨sv, n', rfl, hS, mt', hsl, hm'⟩ F' N'
    rw [hlen, List.take_length] at hS mt'
    exact hQ h tk m' sv n' F' N' hS mt' hm'
end
end Mine
end PartR2

section PartR3
open PySem PySem.W PyProof.Rows
namespace Mine
local macro_rules | `(tactic| k_mem) => `(tactic| with_reducible assumption)
local macro_rules | `(tactic| walk_at "eval Name") => `(tactic| (k_here; k_dflt (refine' ld ?F ?v ?_; (case F => k_asm); (case v => first | exact rfl | assumption); k_whole)))
local macro_rules | `(tactic| walk_at "exec For Tuple Subscript cons nil") => `(tactic| (refine wpAny_For ?_))
local macro_rules | `(tactic| walk_at "pyIter ref") => `(tactic| (refine Hold.out ?_))
local macro_rules | `(tactic| walk_at "call builtin:list.append") => `(tactic| (refine Hold.out ?_))
local macro_rules | `(tactic| walk_at "subscriptTail Name Slice ref ref") => `(tactic| (refine Hold.out ?_))
theorem DatAll.rev {news : List (Addr × Obj)} {vs : List Value} {ds : List Dat} (h : DatAll news vs ds) : DatAll news vs.reverse ds.reverse := by
  induction vs generalizing ds with
  | nil => cases h; exact .nil
  | cons v vs ih =>
    cases h with
    | cons h r =>
      rw [List.reverse_cons, List.reverse_cons]
      exact (ih r).append (.cons h .nil)
def RowInv (rk : Addr) (rest : List (Addr × Obj)) (qs : List Pass) (cs : List Card) (m m' : Str → Option Value) (nw : List (Addr × Obj)) : Prop :=
  ∃ rv n rest', nw = (rk, listOf (List.toArray rv) n) :: rest' ∧ (∀ q ∈ rest, q ∈ rest') ∧ (∀ q ∈ rest', q.1 ≠ rk) ∧ DatAll rest' rv (cs.map (rankD qs)) ∧ rv.length = cs.length ∧ m' (Str.ofString "ranked") = some (.ref rk) ∧ m' (Str.ofString "passes") = m (Str.ofString "passes")
theorem rank_end {h₀ h' : Heap} {L I rk sg rp x : Addr} {it : Obj} {s₁ : Shared} {m m' : Str → Option Value} {rest rest' : List (Addr × Obj)} {qs : List Pass} {cs : List Card} {rv sv pv : List Value} {i n n1 n5 n6 tk : Nat} {rnk : Int} {t1 t2 t3 : Tok} (hi : i < cs.length)
    (sub : ∀ q ∈ rest, q ∈ rest') (off : ∀ q ∈ rest', q.1 ≠ rk) (offI : ∀ q ∈ rest', q.1 ≠ I) (hI : rk ≠ I) (hR : DatAll rest' rv ((cs.take i).map (rankD qs))) (hrl : rv.length = (cs.take i).length) (hS : DatAll [] sv ((signsOf cs[i].1 qs.reverse).1.map .int))
    (hr : rnk = if (signsOf cs[i].1 qs.reverse).2 = true then -cs[i].2 else cs[i].2) (lI : I < sg) (lk : rk < sg) (lp : sg < rp) (lx : sg < x) (lxI : I < x) (lxk : rk < x)
    (F : Fr h₀ L h' m') (N : News h₀ L h' ((x, listOf #[.ref sg, .int rnk t1, .int cs[i].1 t2, .int cs[i].2 t3] n1) :: (sg, listOf (List.toArray sv) n5) :: (rp, listOf (List.toArray pv) n6) :: (I, it) :: (rk, listOf (List.toArray (rv ++ [.ref x])) n) :: rest'))
    (mr : m' (Str.ofString "ranked") = some (.ref rk)) (mp : m' (Str.ofString "passes") = m (Str.ofString "passes")) :
    TurnEnd h₀ L I it (fun m' nw => RowInv rk rest qs (cs.take (i + 1)) m m' nw) s₁ .next { s₁ with heap := h', toks := tk } := by
  subst hr
  have s3 : ∀ q ∈ rest', q ∈ (x, listOf #[.ref sg, .int (if (signsOf cs[i].1 qs.reverse).2 = true then -cs[i].2 else cs[i].2) t1, .int cs[i].1 t2, .int cs[i].2 t3] n1) :: (sg, listOf (List.toArray sv) n5) :: (rp, listOf (List.toArray pv) n6) :: rest' := fun q hq => .tail _ (.tail _ (.tail _ hq))
  refine ⟨rfl, h', tk, m', (rk, listOf (List.toArray (rv ++ [.ref x])) n) :: (x, listOf #[.ref sg, .int (if (signsOf cs[i].1 qs.reverse).2 = true then -cs[i].2 else cs[i].2) t1, .int cs[i].1 t2, .int cs[i].2 t3] n1) :: (sg, listOf (List.toArray sv) n5) :: (rp, listOf (List.toArray pv) n6) :: rest', rfl, F, fun q hq => N q ?_, fun q hq => ?_,
    rv ++ [.ref x], n, _, rfl, fun q hq => s3 q (sub q hq), fun q hq => ?_, ?_, ?_, mr, mp⟩
  · simp only [List.mem_cons] at hq ⊢
    rcases hq with h1 | h1 | h1 | h1 | h1 | h1 <;> simp [h1]
  · simp only [List.mem_cons] at hq
    rcases hq with rfl | rfl | rfl | rfl | hq
    · exact hI
    · exact Nat.ne_of_gt lxI
    · exact Nat.ne_of_gt lI
    · exact Nat.ne_of_gt (Nat.lt_trans lI lp)
    · exact offI q hq
  · simp only [List.mem_cons] at hq
    rcases hq with rfl | rfl | rfl | hq
    · exact Nat.ne_of_gt lxk
    · exact Nat.ne_of_gt lk
    · exact Nat.ne_of_gt (Nat.lt_trans lk lp)
    · exact off q hq
  · rw [← List.take_append_getElem hi, List.map_append]
    refine (hR.mono s3).append (.cons (.list (.head _) (.cons (.list (.tail _ (.head _)) (hS.mono (by intro q hq; cases hq))) (.cons (.int _ _) (.cons (.int _ _) (.cons (.int _ _) .nil))))) .nil)
  · rw [List.length_append, hrl, List.length_take, List.length_take]
    simp
    omega
section
variable {w : World} {A : Around} {base h₀ : Heap} {outer : List Env} {L : Addr} {s : Shared} {m mg mb : Str → Option Value} {p : Program} {loose : List Str} {mean : ExcName → Option Value} {Q : Flow → Shared → Prop}
set_option maxRecDepth 100000 in
set_option maxHeartbeats 600000 in
theorem row_loop {rk ca pa : Addr} {cv pv : List Value} {nc np : Nat} {cs : List Card} {qs : List Pass} {rest nw₀ : List (Addr × Obj)}
   (B : Below A base outer h₀) (F : Fr h₀ L s.heap m) (X₀ : (hd.heap_39 w.params).In h₀) (N : News h₀ L s.heap nw₀) (hTop : Top p loose mean mg mb h₀)
   (hroom : A.depth + 30 < recursionLimit) (hh : A.handled = none) (hC : DatAll rest cv (cs.map cardD)) (hca : (ca, listOf cv.toArray nc) ∈ rest) (hP : DatAll rest pv (qs.map passD)) (hpa : (pa, listOf pv.toArray np) ∈ rest) (hq : ∀ q ∈ qs, 1 ≤ q.2.2 ∧ q.2.2 ≤ 256) (hsz : qs.length < 5000) (hsc : cs.length < 5000)
   (mc : m (Str.ofString "cards") = some (.ref ca)) (mp : m (Str.ofString "passes") = some (.ref pa)) (h0 : RowInv rk rest qs [] m m nw₀)
   (hQ : ∀ h' tk m' nw, Fr h₀ L h' m' → News h₀ L h' nw → RowInv rk rest qs cs m m' nw → Q .next { s with heap := h', toks := tk }) :
   wpAny (model PySem.Challenge.rw_pe0101_01.row.prog w) (A.deeper (rowEnv L)) (exec rowFor (rowEnv L)) Q (fun _ _ => False) s := by
  revert X₀
  k_fill
  intro X₀
  have e1 : scopeOf (topStmt 15) = Scope.mk _ _ _ _ _ := rfl
  have e2 : rowFor = Stmt.For (PySem.Expr.Tuple _ _ _) (PySem.Expr.Name _ _) [_, _, _, _] [] _ := rfl
  unfold rowEnv
  rw [e1, e2]
  refine wpAny_For ?_
  refine ld F mc ?_
  have hlen := hC.length
  rw [List.length_map] at hlen
  have hlp := hP.length
  rw [List.length_map] at hlp
  refine for_list (vs := cv) (fun i m' nw => RowInv rk rest qs (cs.take i) m m' nw) hh F N h0 ?_ (go_tuple (dat_refs hC)) ?_ ?_
  · rintro i m' nw ⟨rv, n, rest', rfl, sub, _⟩
    exact ⟨nc, .tail _ (sub _ hca)⟩
  · rintro i v I it m' nw h tk hv ⟨rv, n, rest', rfl, sub, off, hR, hrl, mr, mp'⟩ hoffI _ F' N'
    have hi : i < cs.length := by rw [← hlen]; exact (List.getElem?_eq_some_iff.mp hv).1
    obtain ⟨cd, nk, tx, ty, hvc, hcm⟩ := DatAll.card hC (List.getElem?_eq_getElem hi)
    rw [hv] at hvc
    cases hvc
    rw [mp] at mp'
    have hcm' := sub _ hcm
    have hl2 : h.IsList cd #[.int cs[i].1 tx, .int cs[i].2 ty] := ⟨_, N'.get (.tail _ (.tail _ hcm')), rfl, _, rfl⟩
    have hpa' := sub _ hpa
    have hlr : rv.length < 5000 := by rw [hrl, List.length_take]; omega
    refine wpAny_mono (Q := fun _ s₂ => wpAny _ _ _ (Stop (TurnEnd _ _ _ _ _ _)) _ s₂) ?_ (fun _ _ h => h) (fun _ _ h => h)
    refine kun_list F' N' hl2 hh rfl rfl ?_
    intro h1 F1 N1
    clear F' N'
    k_steps
    rename Fr _ _ _ _ => Fx
    rename News _ _ _ _ => Nx
    have hlx := Nx.get (.tail _ (.tail _ (.tail _ hpa')))
    refine krv_lit (its := pv.toArray) (zs := pv.reverse) Fx Nx ⟨_, hlx, rfl, np, rfl⟩ (.int _ _) rfl ?_ (by with_unfolding_all rfl) (by kmk_pure) (by rw [List.size_toArray, sizeLine_eq]; omega)
    intro rp h2 F2 N2 l2
    clear Fx Nx
    k_steps
    rename_i _ _ _ _ sg _ l1 _
    have l3 := allLt_out l1.2.2
    have N3 : News h₀ L h2 ((sg, listOf #[] 0) :: (rp, listOf pv.reverse.toArray 0) :: (I, it) :: (rk, listOf (List.toArray rv) n) :: rest') := fun q hq => N2 q (by
      simp only [List.mem_cons] at hq ⊢
      rcases hq with h1 | h1 | h1 | h1 | h1 <;> simp [h1])
    have lsr : sg < rp := l2 _ (.head _)
    have offs : ∀ q ∈ (rp, listOf pv.reverse.toArray 0) :: (I, it) :: (rk, listOf (List.toArray rv) n) :: rest', q.1 ≠ sg := fun q hq => by
      simp only [List.mem_cons] at hq
      rcases hq with rfl | rfl | rfl | hq
      · exact Nat.ne_of_gt lsr
      · exact Nat.ne_of_lt l1.1
      · exact Nat.ne_of_lt l1.2.1
      · exact Nat.ne_of_lt (l3 q hq)
    have sub3 : ∀ q ∈ rest, q ∈ (rp, listOf pv.reverse.toArray 0) :: (I, it) :: (rk, listOf (List.toArray rv) n) :: rest' := fun q hq => .tail _ (.tail _ (.tail _ (sub q hq)))
    show wpAny _ _ _ _ _ _
    refine row_inner (qs := qs.reverse) B F2 X₀ N3 hTop (by omega) hh offs (by rw [List.map_reverse]; exact DatAll.rev (hP.mono sub3)) (.head _) (fun q hq' => hq q (List.mem_reverse.mp hq')) (by rw [List.length_reverse]; exact hsz) rfl rfl rfl ?_
    intro h5 tk5 m5 sv n5 F5 N5 hS mt5 hm5
    clear N2 N3 F2
    have ms5 : m5 (Str.ofString "signs") = some (.ref sg) := hm5 _ (by decide) (by decide) (by decide) (by decide)
    have mv5 : m5 (Str.ofString "value") = some (.int cs[i].1 tx) := hm5 _ (by decide) (by decide) (by decide) (by decide)
    have ml5 : m5 (Str.ofString "place") = some (.int cs[i].2 ty) := hm5 _ (by decide) (by decide) (by decide) (by decide)
    have mr5 : m5 (Str.ofString "ranked") = some (.ref rk) := (hm5 _ (by decide) (by decide) (by decide) (by decide)).trans mr
    have mp5 : m5 (Str.ofString "passes") = some (.ref pa) := (hm5 _ (by decide) (by decide) (by decide) (by decide)).trans mp'
    show wpAny _ _ _ _ _ _
    generalize htb : (signsOf cs[i].1 qs.reverse).2 = tb at mt5
    cases tb with
    | true =>
      k_steps
      rename_i x hx Fx Nx lx
      show wpAny _ _ _ _ _ _
      refine append_K Fx Nx (.tail (Nat.ne_of_gt lx.2.2.2.1) (.tail (Nat.ne_of_gt l1.2.1) (.tail (Nat.ne_of_gt (Nat.lt_trans l1.2.1 lsr)) (.tail (Ne.symm (hoffI _ (.head _))) (.head off))))) ?_ (by rw [List.size_toArray, sizeLine_eq]; omega)
      intro hy Fy Ny
      rw [List.push_toArray] at Ny
      clear Fx Nx
      k_steps
      rename Fr _ _ _ _ => Fz
      rename News _ _ _ _ => Nz
      exact rank_end hi sub off (fun q hq => hoffI q (.tail _ hq)) (hoffI _ (.head _)) hR hrl hS (by rw [htb]; rfl) l1.1 l1.2.1 lsr lx.1 (Nat.lt_trans l1.1 lx.1) (Nat.lt_trans l1.2.1 lx.1) Fz Nz mr5 (mp5.trans mp.symm)
    | false =>
      k_steps
      rename_i x hx Fx Nx lx
      show wpAny _ _ _ _ _ _
      refine append_K Fx Nx (.tail (Nat.ne_of_gt lx.2.2.2.1) (.tail (Nat.ne_of_gt l1.2.1) (.tail (Nat.ne_of_gt (Nat.lt_trans l1.2.1 lsr)) (.tail (Ne.symm (hoffI _ (.head _))) (.head off))))) ?_ (by rw [List.size_toArray, sizeLine_eq]; omega)
      intro hy Fy Ny
      rw [List.push_toArray] at Ny
      clear Fx Nx
      k_steps
      rename Fr _ _ _ _ => Fz
      rename News _ _ _ _ => Nz
      exact rank_end hi sub off (fun q hq => hoffI q (.tail _ hq)) (hoffI _ (.head _)) hR hrl hS (by rw [htb]; rfl) l1.1 l1.2.1 lsr lx.1 (Nat.lt_trans l1.1 lx.1) (Nat.lt_trans l1.2.1 lx.1) Fz Nz mr5 (mp5.trans mp.symm)
  · rintro m' nw h tk hJ F' N'
    rw [hlen, List.take_length] at hJ
    exact hQ h tk m' nw F' N' hJ
end
end Mine
end PartR3

section PartX1
open PySem PySem.W PyProof.Rows
open PySem.SeqAt PySem.AutoSeq1 PySem.MeetsSeq PySem.MeetsSeq2 PySem.MeetsSeq3 PySem.SeqRoads2
namespace Mine
/-- a < b is told so, and nothing turns -/
def LtAt (A : Around) (s : Shared) (y x : Value) (b : Bool) : Prop :=
  ∀ (prog : Program) (w : World) (E : Value → Shared → Prop) (Q : Value → Shared → Prop), Q (.bool b) s → wpAny (model prog w) A (richCompare .Lt y x) Q E s
theorem lt_loop (l b : Addr) (items items2 : Array Value) (n n2 : Nat) (dd dd2 : Option Addr) (sl sl2 : Array (Option Value)) (d : Nat) (h1 : d < items.size) (h2 : d < items2.size) (res : Bool) (k : Nat) :
    ∀ i : Nat, i ≤ d → d - i = k → Meets (Builtin.«list.__eq__.loop» ⟨[.ref l, .ref b, rawInt i, rawInt 0], []⟩)
      (fun A R s => s.heap.get? l = some { cls := .type "list", dict := dd, data := .seq items n, slots := sl } ∧ s.heap.get? b = some { cls := .type "list", dict := dd2, data := .seq items2 n2, slots := sl2 } ∧
        (∀ j (g1 : j < items.size) (g2 : j < items2.size), j < d → EqAt A.in1 s items[j] items2[j] true) ∧ EqAt A.in1 s items[d] items2[d] false ∧ LtAt A.in1 s items[d] items2[d] res ∧
        R (.ok (.ret (.bool res))) s) := by
  induction k with
  | zero =>
    intro i hi hk prog w A R s h
    obtain ⟨hp, g, dr, tk, os⟩ := s; obtain ⟨hl, hb, he, hf, ht, h⟩ := h
    obtain rfl : i = d := by omega
    wp_walk using wpAny_loadPart' hl, wpAny_loadPart' hb
    have hi1 : items[((i : Nat) : Int).toNat]? = some items[i] := by simp [h1]
    have hi2 : items2[((i : Nat) : Int).toNat]? = some items2[i] := by simp [h2]
    rw [hi1, hi2]
    refine wpAny_bind (hf prog w _ _ ?_)
    wp_walk using wpAny_loadPart' hl, wpAny_loadPart' hb
    rw [hi1, hi2]
    show wpAny _ _ (richCompare .Lt items[i] items2[i] >>= fun r => ret r) _ _ _
    exact wpAny_bind (ht prog w _ _ (wpAny_pure h))
  | succ k ih =>
    intro i hi hk prog w A R s h
    obtain ⟨hp, g, dr, tk, os⟩ := s; obtain ⟨hl, hb, he, hf, ht, h⟩ := h
    wp_walk using wpAny_loadPart' hl, wpAny_loadPart' hb
    have g1 : i < items.size := by omega
    have g2 : i < items2.size := by omega
    have hi1 : items[((i : Nat) : Int).toNat]? = some items[i] := by simp [g1]
    have hi2 : items2[((i : Nat) : Int).toNat]? = some items2[i] := by simp [g2]
    have hc : ((i : Int) + 1) = ((i + 1 : Nat) : Int) := by push_cast; rfl
    rw [hi1, hi2]
    refine wpAny_bind (he i g1 g2 (by omega) prog w _ _ ?_)
    wp_walk
    rw [hc]
    exact ⟨plainId_quiet plain_eq_loop _, codeAny_builtin entry_eq_loop (by
      rw [Around.under_plainId plain_eq_loop _]
      exact ih (i + 1) (by omega) (by omega) prog w A R _ ⟨hl, hb, he, hf, ht, h⟩)⟩
theorem list_lt_meets (l b : Addr) (items items2 : Array Value) (n n2 : Nat) (dd dd2 : Option Addr) (sl sl2 : Array (Option Value)) (d : Nat) (h1 : d < items.size) (h2 : d < items2.size) (res : Bool) :
    Meets (Builtin.«list.__lt__» ⟨[.ref l, .ref b], []⟩)
      (fun A R s => s.heap.get? l = some { cls := .type "list", dict := dd, data := .seq items n, slots := sl } ∧ s.heap.get? b = some { cls := .type "list", dict := dd2, data := .seq items2 n2, slots := sl2 } ∧
        (∀ j (g1 : j < items.size) (g2 : j < items2.size), j < d → EqAt A.in1 s items[j] items2[j] true) ∧ EqAt A.in1 s items[d] items2[d] false ∧ LtAt A.in1 s items[d] items2[d] res ∧
        R (.ok (.ret (.bool res))) s) := by
  intro prog w A R s h
  obtain ⟨hp, g, dr, tk, os⟩ := s; obtain ⟨hl, hb, he, hf, ht, h⟩ := h
  have f3 := AutoSeq1.sub_list_list
  wp_walk using wpAny_loadPart' hl, wpAny_loadPart' hb
  exact ⟨plainId_quiet plain_eq_loop _, codeAny_builtin entry_eq_loop (by
    rw [Around.under_plainId plain_eq_loop _]
    exact lt_loop l b items items2 n n2 dd dd2 sl sl2 d h1 h2 res _ 0 (Nat.zero_le _) rfl prog w A R _ ⟨hl, hb, he, hf, ht, h⟩)⟩
section
variable {A : Around} {s : Shared}
theorem LtAt.ints {a b : Int} {t u : Tok} : LtAt A s (.int a t) (.int b u) (decide (a < b)) := fun prog w E Q h =>
  wpAny_mono (Q := Q) (show wpAny (model prog w) A (compareOp .Lt (.int a t) (.int b u)) Q E s from lt_int h) (fun _ _ h => h) (fun _ _ h => h)
theorem LtAt.lists {l b : Addr} {items items2 : Array Value} {d : Nat} {res : Bool} (hl : s.heap.IsList l items) (hb : s.heap.IsList b items2) (hu : A.units < cLine) (h1 : d < items.size) (h2 : d < items2.size)
    (he : ∀ j (g1 : j < items.size) (g2 : j < items2.size), j < d → EqAt A.in1 s items[j] items2[j] true) (hf : EqAt A.in1 s items[d] items2[d] false) (ht : LtAt A.in1 s items[d] items2[d] res) : LtAt A s (.ref l) (.ref b) res := fun prog w E Q h => by
  obtain ⟨⟨cls, dd, data, sl⟩, ho, hc, n, hd⟩ := id hl
  obtain ⟨⟨cls2, dd2, data2, sl2⟩, ho2, hc2, n2, hd2⟩ := id hb
  simp only at hc hd hc2 hd2
  subst hc hd hc2 hd2
  exact richCompare_meets_room (op := .Lt) ⟨_, ho, rfl⟩ ⟨_, ho2, rfl⟩ F.slot_list_lt F.entry_list_lt (F.args_list_lt_2 _ _) (list_lt_meets l b items items2 n n2 dd dd2 sl sl2 d h1 h2 res)
    ⟨ho, ho2, he, hf, ht, show Value.bool res ≠ Value.notImplemented ∧ Q (.bool res) s from ⟨(fun x => nomatch x), h⟩⟩ hu
/-- one question of the sort -/
theorem oneLt_lists {prog : Program} {w : World} {E : Value → Shared → Prop} {l b : Addr} {items items2 : Array Value} {d : Nat} {res : Bool} {Q : Bool → Shared → Prop} (hl : s.heap.IsList l items) (hb : s.heap.IsList b items2) (hu : A.units < cLine) (h1 : d < items.size) (h2 : d < items2.size)
    (he : ∀ j (g1 : j < items.size) (g2 : j < items2.size), j < d → EqAt A.in1 s items[j] items2[j] true) (hf : EqAt A.in1 s items[d] items2[d] false) (ht : LtAt A.in1 s items[d] items2[d] res) (h : Q res s) : wpAny (model prog w) A (oneLt' true (.ref l) (.ref b)) Q E s := by
  obtain ⟨⟨cls, dd, data, sl⟩, ho, hc, n, hd⟩ := id hl
  obtain ⟨⟨cls2, dd2, data2, sl2⟩, ho2, hc2, n2, hd2⟩ := id hb
  simp only at hc hd hc2 hd2
  subst hc hd hc2 hd2
  rw [oneLt'_eq]
  simp only [if_true]
  refine wpAny_bind (wpAny_cRoomFor hu ?_)
  refine wpAny_bind (wpAny_callSpecialIfBound?_slot ⟨_, ho, rfl⟩ F.slot_list_lt (call_meets F.slot_list_lt ⟨_, ho, rfl⟩ F.entry_list_lt (F.args_list_lt_2 _ _) (list_lt_meets l b items items2 n n2 dd dd2 sl sl2 d h1 h2 res) ⟨ho, ho2, he, hf, ht, ?_⟩))
  exact wpAny_truthy_bool h
end
end Mine
end PartX1

section PartX2
open PySem PySem.W PyProof.Rows
namespace Mine
/-- a tree of questions, answered by a plain order; every question is about two places below n -/
noncomputable def okay {α : Type} (lt : Nat → Nat → Bool) (n : Nat) : KasT α → (α → Prop) → Prop
  | .ret a, Q => Q a
  | .ask i j k, Q => i < n ∧ j < n ∧ i ≠ j ∧ okay lt n (k (lt i j)) Q
theorem okay_bind {α β : Type} {lt : Nat → Nat → Bool} {n : Nat} {f : α → KasT β} {Q : β → Prop} : ∀ (t : KasT α), okay lt n t (fun a => okay lt n (f a) Q) → okay lt n (t.bind f) Q
  | .ret _, h => h
  | .ask _ _ k, h => ⟨h.1, h.2.1, h.2.2.1, okay_bind (k _) h.2.2.2⟩
theorem okay_mono {α : Type} {lt : Nat → Nat → Bool} {n : Nat} {Q Q' : α → Prop} (hq : ∀ a, Q a → Q' a) : ∀ (t : KasT α), okay lt n t Q → okay lt n t Q'
  | .ret _, h => hq _ h
  | .ask _ _ k, h => ⟨h.1, h.2.1, h.2.2.1, okay_mono hq (k _) h.2.2.2⟩
theorem okay_run {α : Type} {lt : Nat → Nat → Bool} {n : Nat} {cmp : Nat → Nat → (Bool → Shared → Prop) → Shared → Prop} {s : Shared} {Q' : α → Prop} {Q : α → Shared → Prop} (hc : ∀ i j, i < n → j < n → i ≠ j → ∀ C : Bool → Shared → Prop, C (lt i j) s → cmp i j C s) (hq : ∀ a, Q' a → Q a s) :
    ∀ (t : KasT α), okay lt n t Q' → t.kasWp cmp Q s
  | .ret _, h => hq _ h
  | .ask i j k, h => hc i j h.1 h.2.1 h.2.2.1 _ (okay_run hc hq (k _) h.2.2.2)
section
variable {lt : Nat → Nat → Bool} {n : Nat}
structure Strict (lt : Nat → Nat → Bool) (n : Nat) : Prop where
  tot : ∀ i j, i < n → j < n → i ≠ j → lt i j = false → lt j i = true
  asym : ∀ i j, i < n → j < n → lt i j = true → lt j i = false
  trans : ∀ i j k, i < n → j < n → k < n → lt i j = true → lt j k = true → lt i k = true
abbrev g (p : Array Nat) (i : Nat) : Nat := p.getD i 0
def Sor (lt : Nat → Nat → Bool) (p : Array Nat) (k : Nat) : Prop := ∀ i j, i < j → j < k → lt (g p i) (g p j) = true
def Des (lt : Nat → Nat → Bool) (p : Array Nat) (k : Nat) : Prop := ∀ i j, i < j → j < k → lt (g p j) (g p i) = true
/-- an arrangement of the places below n -/
structure Arr (p : Array Nat) (n : Nat) : Prop where
  perm : p.toList.Perm (List.range n)
theorem Arr.size {p : Array Nat} (h : Arr p n) : p.size = n := by have := h.perm.length_eq; simpa using this
theorem Arr.below {p : Array Nat} (h : Arr p n) {i : Nat} (hi : i < n) : g p i < n := by
  have hs := h.size
  have hi' : i < p.size := by omega
  have e : g p i = p[i] := by simp [g, Array.getD, hi']
  rw [e]
  have := h.perm.mem_iff.mp (Array.getElem_mem_toList hi')
  simpa using this
theorem Arr.ne {p : Array Nat} (h : Arr p n) {i j : Nat} (hi : i < n) (hj : j < n) (hij : i ≠ j) : g p i ≠ g p j := by
  have hs := h.size
  have hi' : i < p.toList.length := by simpa [hs] using hi
  have hj' : j < p.toList.length := by simpa [hs] using hj
  have nd : p.toList.Nodup := h.perm.nodup_iff.mpr List.nodup_range
  have e1 : g p i = p.toList[i] := by simp [g, Array.getD, hs, hi]
  have e2 : g p j = p.toList[j] := by simp [g, Array.getD, hs, hj]
  rw [e1, e2]
  intro e
  rcases Nat.lt_or_gt_of_ne hij with q | q
  · exact (List.pairwise_iff_getElem.mp nd i j hi' hj' q) e
  · exact (List.pairwise_iff_getElem.mp nd j i hj' hi' q) e.symm
theorem g_of {p q : Array Nat} {i j : Nat} (h : p[i]? = q[j]?) : g p i = g q j := by
  simp only [g, Array.getD_eq_getD_getElem?, h]
theorem Arr.rev {p : Array Nat} (h : Arr p n) (i j : Nat) : Arr (kas_rev p i j) n := ⟨(Array.perm_iff_toList_perm.mp (mirror_perm p i j _)).trans h.perm⟩
theorem Arr.bub {p : Array Nat} (h : Arr p n) (i j : Nat) : Arr (bubble p i j) n := ⟨(Array.perm_iff_toList_perm.mp (bubble_perm p i j)).trans h.perm⟩
theorem sor_succ {p : Array Nat} (S : Strict lt n) (A : Arr p n) {k : Nat} (h1 : 1 ≤ k) (hk : k < n) (h : Sor lt p k) (hl : lt (g p (k - 1)) (g p k) = true) : Sor lt p (k + 1) := by
  intro i j hij hj
  by_cases hjk : j < k
  · exact h i j hij hjk
  · obtain rfl : j = k := by omega
    by_cases hi : i = j - 1
    · rw [hi]; exact hl
    · exact S.trans _ (g p (j - 1)) _ (A.below (by omega)) (A.below (by omega)) (A.below (by omega)) (h i (j - 1) (by omega) (by omega)) hl
theorem des_succ {p : Array Nat} (S : Strict lt n) (A : Arr p n) {k : Nat} (h1 : 1 ≤ k) (hk : k < n) (h : Des lt p k) (hl : lt (g p k) (g p (k - 1)) = true) : Des lt p (k + 1) := by
  intro i j hij hj
  by_cases hjk : j < k
  · exact h i j hij hjk
  · obtain rfl : j = k := by omega
    by_cases hi : i = j - 1
    · rw [hi]; exact hl
    · exact S.trans _ (g p (j - 1)) _ (A.below (by omega)) (A.below (by omega)) (A.below (by omega)) hl (h i (j - 1) (by omega) (by omega))
theorem ok_asc {p : Array Nat} (S : Strict lt n) (A : Arr p n) : ∀ (f k : Nat), 1 ≤ k → k + f ≤ n → Sor lt p k → okay lt n (kas_asc p f k) fun m => k ≤ m ∧ m ≤ k + f ∧ Sor lt p m ∧ (m = k + f ∨ lt (g p m) (g p (m - 1)) = true)
  | 0, k, _, _, h => ⟨Nat.le_refl _, Nat.le_refl _, h, .inl rfl⟩
  | f + 1, k, h1, hk, h => by
    refine ⟨A.below (by omega), A.below (by omega), A.ne (by omega) (by omega) (by omega), ?_⟩
    cases hc : lt (g p k) (g p (k - 1)) with
    | true => exact ⟨Nat.le_refl _, by omega, h, .inr hc⟩
    | false =>
      have hl := S.tot _ _ (A.below (by omega)) (A.below (by omega)) (A.ne (by omega) (by omega) (by omega)) hc
      refine okay_mono (fun m hm => ?_) _ (ok_asc S A f (k + 1) (by omega) (by omega) (sor_succ S A h1 (by omega) h hl))
      exact ⟨by omega, by omega, hm.2.2.1, by rcases hm.2.2.2 with h | h; exact .inl (by omega); exact .inr h⟩
theorem ok_desc {p : Array Nat} (S : Strict lt n) (A : Arr p n) : ∀ (f k : Nat), 1 ≤ k → k + f ≤ n → Des lt p k → okay lt n (kas_desc f p k 0) fun r => r.1 = p ∧ k ≤ r.2.1 ∧ r.2.1 ≤ k + f ∧ r.2.2 = 0 ∧ Des lt p r.2.1
  | 0, k, _, _, h => ⟨rfl, Nat.le_refl _, Nat.le_refl _, rfl, h⟩
  | f + 1, k, h1, hk, h => by
    refine ⟨A.below (by omega), A.below (by omega), A.ne (by omega) (by omega) (by omega), ?_⟩
    cases hc : lt (g p k) (g p (k - 1)) with
    | true =>
      refine okay_mono (fun r hr => ?_) _ (ok_desc S A f (k + 1) (by omega) (by omega) (des_succ S A h1 (by omega) h hc))
      exact ⟨hr.1, by omega, by omega, hr.2.2.2⟩
    | false =>
      have hl := S.tot _ _ (A.below (by omega)) (A.below (by omega)) (A.ne (by omega) (by omega) (by omega)) hc
      refine ⟨A.below (by omega), A.below (by omega), A.ne (by omega) (by omega) (by omega), ?_⟩
      rw [hl]
      exact ⟨rfl, Nat.le_refl _, Nat.le_add_right _ _, rfl, h⟩
theorem sor_rev {p : Array Nat} (A : Arr p n) {k : Nat} (hk : k ≤ n) (h : Des lt p k) : Sor lt (kas_rev p 0 k) k := by
  intro i j hij hj
  have hs := A.size
  have e : ∀ x, x < k → g (kas_rev p 0 k) x = g p (k - 1 - x) := fun x hx => g_of (by
    have := getElem?_mirror_all (xs := p) (i := 0) (j := k) (by omega) x
    unfold kas_rev
    rw [this, if_pos ⟨Nat.zero_le _, hx⟩]
    congr 1
    omega)
  rw [e i (by omega), e j hj]
  exact h _ _ (by omega) (by omega)
theorem ok_tail3 {p : Array Nat} (S : Strict lt n) (A : Arr p n) {k : Nat} (h1 : 1 ≤ k) (hk : k ≤ n) (h : Des lt p k) : okay lt n (kas_tail3 k n p) fun r => k ≤ r.1 ∧ r.1 ≤ n ∧ Arr r.2 n ∧ Sor lt r.2 r.1 := by
  unfold kas_tail3
  refine okay_bind _ (okay_mono (fun m hm => ?_) _ (ok_asc S (A.rev 0 k) (n - k) k h1 (by omega) (sor_rev A hk h)))
  exact ⟨hm.1, by omega, A.rev 0 k, hm.2.2.1⟩
theorem ok_count {p : Array Nat} (S : Strict lt n) (A : Arr p n) (h2 : 2 ≤ n) : okay lt n (kas_count n p) fun r => 1 ≤ r.1 ∧ r.1 ≤ n ∧ Arr r.2 n ∧ Sor lt r.2 r.1 := by
  unfold kas_count
  refine okay_bind _ (okay_mono (fun m hm => ?_) _ (ok_asc S A (n - 1) 1 (Nat.le_refl _) (by omega) (by intro i j h1 h2; omega)))
  obtain ⟨h1, hm2, hS, hm3⟩ := hm
  by_cases e1 : (m == n) = true
  · rw [if_pos e1]
    exact ⟨h1, by omega, A, hS⟩
  · rw [if_neg e1]
    have hne : m ≠ n := fun q => e1 (by rw [q]; exact beq_self_eq_true _)
    by_cases e2 : m > 1
    · rw [if_pos e2]
      refine ⟨A.below (by omega), A.below (by omega), A.ne (by omega) (by omega) (by omega), ?_⟩
      rw [hS 0 (m - 1) (by omega) (by omega)]
      exact ⟨h1, by omega, A, hS⟩
    · rw [if_neg e2]
      obtain rfl : m = 1 := by omega
      have hl : lt (g p 1) (g p 0) = true := by
        rcases hm3 with h | h
        · omega
        · exact h
      unfold kas_descPart
      have hD : Des lt p 2 := by
        intro i j hij hj
        obtain rfl : j = 1 := by omega
        obtain rfl : i = 0 := by omega
        exact hl
      refine okay_bind _ (okay_mono (fun r hr => ?_) _ (ok_desc S A (n - 2) 2 (by omega) (by omega) hD))
      obtain ⟨r1, r2, r3⟩ := r
      obtain ⟨h1', h2', h3', h4', h5'⟩ := hr
      dsimp only at h1' h2' h3' h4' h5'
      subst h1' h4'
      show okay lt n (if 0 > 0 then _ else kas_tail3 r2 n r1) _
      rw [if_neg (by omega)]
      exact okay_mono (fun r hr => ⟨by omega, hr.2.1, hr.2.2.1, hr.2.2.2⟩) _ (ok_tail3 S A (by omega) (by omega) h5')
theorem ok_place {p : Array Nat} (S : Strict lt n) (A : Arr p n) {k : Nat} (hk : k < n) (hS : Sor lt p k) : ∀ (f l r : Nat), l ≤ r → r ≤ k → r - l ≤ f → (∀ i, i < l → lt (g p i) (g p k) = true) → (∀ i, r ≤ i → i < k → lt (g p k) (g p i) = true) →
    okay lt n (kas_place p k f l r) fun x => x ≤ k ∧ (∀ i, i < x → lt (g p i) (g p k) = true) ∧ ∀ i, x ≤ i → i < k → lt (g p k) (g p i) = true
  | 0, l, r, h1, h2, h3, h4, h5 => by
    obtain rfl : l = r := by omega
    exact ⟨h2, h4, h5⟩
  | f + 1, l, r, h1, h2, h3, h4, h5 => by
    unfold kas_place
    by_cases e : l ≥ r
    · rw [if_pos e]
      obtain rfl : l = r := by omega
      exact ⟨h2, h4, h5⟩
    · rw [if_neg e]
      refine ⟨A.below (by omega), A.below (by omega), A.ne (by omega) (by omega) (by omega), ?_⟩
      cases hc : lt (g p k) (g p ((l + r) / 2)) with
      | true =>
        refine ok_place S A hk hS f l ((l + r) / 2) (by omega) (by omega) (by omega) h4 fun i hi hik => ?_
        by_cases hi2 : i = (l + r) / 2
        · rw [hi2]; exact hc
        · exact S.trans _ (g p ((l + r) / 2)) _ (A.below hk) (A.below (by omega)) (A.below (by omega)) hc (hS _ _ (by omega) hik)
      | false =>
        have hl := S.tot _ _ (A.below hk) (A.below (by omega)) (A.ne hk (by omega) (by omega)) hc
        refine ok_place S A hk hS f ((l + r) / 2 + 1) r (by omega) h2 (by omega) (fun i hi => ?_) h5
        by_cases hi2 : i = (l + r) / 2
        · rw [hi2]; exact hl
        · exact S.trans _ (g p ((l + r) / 2)) _ (A.below (by omega)) (A.below (by omega)) (A.below hk) (hS _ _ (by omega) (by omega)) hl
theorem sor_bub {p : Array Nat} (A : Arr p n) {k x : Nat} (hk : k < n) (hx : x ≤ k) (hS : Sor lt p k) (h1 : ∀ i, i < x → lt (g p i) (g p k) = true) (h2 : ∀ i, x ≤ i → i < k → lt (g p k) (g p i) = true) : Sor lt (bubble p k (k - x)) (k + 1) := by
  have hs := A.size
  have e : ∀ y, g (bubble p k (k - x)) y = if y = x then g p k else if x < y ∧ y ≤ k then g p (y - 1) else g p y := fun y => by
    have q := getElem?_bubble (xs := p) (src := k) (by omega) (k - x) (by omega) y
    rw [show k - (k - x) = x by omega] at q
    by_cases a : y = x
    · rw [if_pos a] at q ⊢; exact g_of q
    · rw [if_neg a] at q ⊢
      by_cases b : x < y ∧ y ≤ k
      · rw [if_pos b] at q ⊢; exact g_of q
      · rw [if_neg b] at q ⊢; exact g_of q
  intro i j hij hj
  rw [e i, e j]
  by_cases a1 : i = x
  · rw [if_pos a1, if_neg (by omega), if_pos ⟨by omega, by omega⟩]
    exact h2 _ (by omega) (by omega)
  · rw [if_neg a1]
    by_cases a2 : x < i ∧ i ≤ k
    · rw [if_pos a2, if_neg (by omega), if_pos ⟨by omega, by omega⟩]
      exact hS _ _ (by omega) (by omega)
    · rw [if_neg a2]
      by_cases b1 : j = x
      · rw [if_pos b1]; exact h1 _ (by omega)
      · rw [if_neg b1]
        by_cases b2 : x < j ∧ j ≤ k
        · rw [if_pos b2]
          exact hS _ _ (by omega) (by omega)
        · rw [if_neg b2]
          exact hS _ _ hij (by omega)
theorem ok_bin (S : Strict lt n) : ∀ (f : Nat) (p : Array Nat) (k : Nat), Arr p n → k + f = n → Sor lt p k → okay lt n (kas_bin f p k) fun q => Arr q n ∧ Sor lt q n
  | 0, p, k, A, hk, h => by
    obtain rfl : k = n := by omega
    exact ⟨A, h⟩
  | f + 1, p, k, A, hk, h => by
    show okay lt n ((kas_place p k k 0 k).bind fun l => kas_bin f (bubble p k (k - l)) (k + 1)) _
    refine okay_bind _ (okay_mono (fun x hx => ?_) _ (ok_place S A (by omega) h k 0 k (by omega) (by omega) (by omega) (by intro i hi; omega) (by intro i h1 h2; omega)))
    exact ok_bin S f _ (k + 1) (A.bub _ _) (by omega) (sor_bub A (by omega) hx.1 h hx.2.1 hx.2.2)
theorem ok_sort (S : Strict lt n) (h2 : 2 ≤ n) : okay lt n (kas_sort n) fun q => Arr q n ∧ Sor lt q n := by
  unfold kas_sort
  refine okay_bind _ (okay_mono (fun r hr => ?_) _ (ok_count S ⟨by simp⟩ h2))
  obtain ⟨h1, h2', A, hS⟩ := hr
  by_cases e : r.1 < n
  · rw [if_pos e]
    rw [show max r.1 1 = r.1 by omega]
    exact ok_bin S _ _ _ A (by omega) hS
  · rw [if_neg e]
    have : r.1 = n := by omega
    exact ⟨A, by rw [this] at hS; exact hS⟩
end
end Mine
end PartX2

section PartX3
open PySem PySem.W PyProof.Rows
open PySem.SeqAt
namespace Mine
section
variable {h₀ : Heap} {L : Addr} {news : List (Addr × Obj)} {A : Around} {s : Shared}
theorem eqAt_dat {v1 v2 : Value} {d1 d2 : Dat} (N : News h₀ L s.heap news) (h1 : DatIn news v1 d1) (h2 : DatIn news v2 d2) (k1 : kqdOk 8 d1 = true) (k2 : kqdOk 8 d2 = true) (hu : A.units + 20 < cLine) {b : Bool} (hb : b = true ↔ d1 = d2) : EqAt A s v1 v2 b := fun prog w E Q h => by
  obtain ⟨as, r1⟩ := kqd_in N 8 h1 k1
  obtain ⟨bs, r2⟩ := kqd_in N 8 h2 k2
  have l1 := kqd_lay 8 d1 k1
  have l2 := kqd_lay 8 d2 k2
  have e : PyData.eqv (kqdP d1) (kqdP d2) = b := by
    have q := kqd_eqv 8 d1 d2 8 k1 k2
    cases b with
    | true => exact q.mpr (hb.mp rfl)
    | false => exact Bool.eq_false_iff.mpr fun x => by have := hb.mpr (q.mp x); cases this
  refine eqBoolOverData prog w A E s v1 v2 _ _ as bs Q r1 r2 l1.1 l2.1 (by have := l1.2; omega) ?_
  rw [e]; exact h
theorem kqd_ints (xs : List Int) (n : Nat) : kqdOk (n + 1) (.list (xs.map .int)) = true := by
  simp [kqdOk, List.all_eq_true]
theorem ints_inj {xs ys : List Int} (h : Dat.list (xs.map .int) = Dat.list (ys.map .int)) : xs = ys := by
  have q : xs.map Dat.int = ys.map Dat.int := by injection h
  exact (List.map_inj_right (fun a b e => by injection e)).mp q
/-- the first place at which two lists part -/
theorem first_diff : ∀ (xs ys : List Int), xs.length = ys.length → xs ≠ ys → ∃ d, ∃ (h1 : d < xs.length) (h2 : d < ys.length), (∀ j (g1 : j < xs.length) (g2 : j < ys.length), j < d → xs[j] = ys[j]) ∧ xs[d] ≠ ys[d] ∧ (xs < ys ↔ xs[d] < ys[d])
  | [], [], _, h => absurd rfl h
  | [], _ :: _, h, _ => by simp at h
  | _ :: _, [], h, _ => by simp at h
  | x :: xs, y :: ys, hl, hne => by
    by_cases e : x = y
    · subst e
      obtain ⟨d, h1, h2, a, b, c⟩ := first_diff xs ys (by simpa using hl) (fun q => hne (by rw [q]))
      refine ⟨d + 1, by simp; omega, by simp; omega, fun j g1 g2 hj => ?_, by simpa using b, ?_⟩
      · cases j with
        | zero => rfl
        | succ j => simpa using a j (by simpa using g1) (by simpa using g2) (by omega)
      · rw [List.cons_lt_cons_iff]
        simp only [List.getElem_cons_succ, ← c]
        constructor
        · rintro (h | h)
          · exact absurd h (Int.lt_irrefl _)
          · exact h.2
        · exact fun h => .inr ⟨trivial, h⟩
    · refine ⟨0, by simp, by simp, fun j _ _ hj => by omega, e, ?_⟩
      rw [List.cons_lt_cons_iff]
      simp only [List.getElem_cons_zero]
      constructor
      · rintro (h | h)
        · exact h
        · exact absurd h.1 e
      · exact fun h => .inl h
theorem ints_at {vs : List Value} {xs : List Int} (h : DatAll news vs (xs.map .int)) {j : Nat} (hj : j < xs.length) (hv : j < vs.length) : ∃ t, vs[j] = .int xs[j] t := by
  obtain ⟨v, hv', hd⟩ := dat_at h (List.getElem?_eq_getElem hj)
  have e : vs[j] = v := by
    have := (List.getElem?_eq_some_iff.mp hv').2
    exact this
  cases hd with
  | int _ t => exact ⟨t, e⟩
/-- two lists of ints compared -/
theorem ltAt_ints {a b : Addr} {n1 n2 : Nat} {us vs : List Value} {xs ys : List Int} (N : News h₀ L s.heap news) (ha : (a, listOf us.toArray n1) ∈ news) (hb : (b, listOf vs.toArray n2) ∈ news) (hx : DatAll news us (xs.map .int)) (hy : DatAll news vs (ys.map .int)) (hl : xs.length = ys.length) (hne : xs ≠ ys) (hu : A.units + 20 < cLine) :
    LtAt A s (.ref a) (.ref b) (decide (xs < ys)) := by
  obtain ⟨d, h1, h2, he, hf, hlt⟩ := first_diff xs ys hl hne
  have lx := hx.length
  have ly := hy.length
  rw [List.length_map] at lx ly
  obtain ⟨t, e1⟩ := ints_at hx h1 (by omega)
  obtain ⟨u, e2⟩ := ints_at hy h2 (by omega)
  refine LtAt.lists (d := d) ⟨_, N.get ha, rfl, n1, rfl⟩ ⟨_, N.get hb, rfl, n2, rfl⟩ (by omega) (by simp; omega) (by simp; omega) (fun j g1 g2 hj => ?_) ?_ ?_
  · obtain ⟨t', q1⟩ := ints_at hx (j := j) (by simp at g1; omega) (by simp at g1; omega)
    obtain ⟨u', q2⟩ := ints_at hy (j := j) (by simp at g2; omega) (by simp at g2; omega)
    simp only [List.getElem_toArray, q1, q2]
    rw [he j (by simp at g1; omega) (by simp at g2; omega) hj]
    refine fun prog w E Q h => wpAny_eqBool_int (by simpa using h)
  · simp only [List.getElem_toArray, e1, e2]
    refine fun prog w E Q h => wpAny_eqBool_int ?_
    have : (xs[d] == ys[d]) = false := by simpa using hf
    rw [this]; exact h
  · simp only [List.getElem_toArray, e1, e2]
    have : decide (xs < ys) = decide (xs[d] < ys[d]) := by
      by_cases q : xs < ys
      · rw [decide_eq_true q, decide_eq_true (hlt.mp q)]
      · rw [decide_eq_false q, decide_eq_false (fun z => q (hlt.mpr z))]
    rw [this]
    exact LtAt.ints
def keyOf (qs : List Pass) (c : Card) : List Int := (signsOf c.1 qs.reverse).1 ++ [if (signsOf c.1 qs.reverse).2 then -c.2 else c.2]
theorem signs_len (v : Int) (rev : List Pass) : (signsOf v rev).1.length = rev.length := by
  have : ∀ (rev : List Pass) (acc : List Int × Bool), (rev.foldl (signStep v) acc).1.length = acc.1.length + rev.length := by
    intro rev
    induction rev with
    | nil => intro acc; simp
    | cons q r ih =>
      intro acc
      rw [List.foldl_cons, ih]
      simp [signStep]
      omega
  have h := this rev ([], false)
  simpa [signsOf] using h
theorem rank_inv {v : Value} {sg : List Int} {r x y : Int} (h : DatIn news v (.list [.list (sg.map .int), .int r, .int x, .int y])) :
    ∃ a n sa t1 t2 t3, v = .ref a ∧ (a, listOf #[.ref sa, .int r t1, .int x t2, .int y t3] n) ∈ news ∧ ∃ us k, (sa, listOf (List.toArray us) k) ∈ news ∧ DatAll news us (sg.map .int) := by
  cases h with
  | list hm r =>
    cases r with
    | cons h1 r =>
      cases h1 with
      | list hs rs =>
        cases r with
        | cons h2 r =>
          cases h2 with
          | int =>
            cases r with
            | cons h3 r =>
              cases h3 with
              | int =>
                cases r with
                | cons h4 r =>
                  cases h4 with
                  | int =>
                    cases r
                    exact ⟨_, _, _, _, _, _, rfl, hm, _, _, hs, rs⟩
theorem lt_snoc {xs ys : List Int} (h : xs.length = ys.length) (r q : Int) : (xs ++ [r] < ys ++ [q]) ↔ (xs < ys ∨ (xs = ys ∧ r < q)) := by
  induction xs generalizing ys with
  | nil =>
    cases ys with
    | nil => simp [List.cons_lt_cons_iff]
    | cons _ _ => simp at h
  | cons x xs ih =>
    cases ys with
    | nil => simp at h
    | cons y ys =>
      simp only [List.cons_append, List.cons_lt_cons_iff, ih (by simpa using h), List.cons.injEq]
      constructor
      · rintro (h | ⟨h1, h2 | h2⟩)
        · exact .inl (.inl h)
        · exact .inl (.inr ⟨h1, h2⟩)
        · exact .inr ⟨⟨h1, h2.1⟩, h2.2⟩
      · rintro ((h | h) | h)
        · exact .inl h
        · exact .inr ⟨h.1, .inl h.2⟩
        · exact .inr ⟨h.1.1, .inr ⟨h.1.2, h.2⟩⟩
/-- one question of sorted(ranked) -/
theorem rank_ask {prog : Program} {w : World} {E : Value → Shared → Prop} {Q : Bool → Shared → Prop} {v1 v2 : Value} {qs : List Pass} {c1 c2 : Card} (N : News h₀ L s.heap news) (h1 : DatIn news v1 (rankD qs c1)) (h2 : DatIn news v2 (rankD qs c2)) (hk : keyOf qs c1 ≠ keyOf qs c2) (hu : A.units + 30 < cLine) (h : Q (decide (keyOf qs c1 < keyOf qs c2)) s) :
    wpAny (model prog w) A (keyLt' oneType' v1 v2) Q E s := by
  unfold rankD at h1 h2
  unfold keyOf at hk h
  have hl1 := signs_len c1.1 qs.reverse
  have hl2 := signs_len c2.1 qs.reverse
  generalize (if (signsOf c1.1 qs.reverse).2 = true then -c1.2 else c1.2) = r1 at *
  generalize (if (signsOf c2.1 qs.reverse).2 = true then -c2.2 else c2.2) = r2 at *
  generalize (signsOf c1.1 qs.reverse).1 = s1 at *
  generalize (signsOf c2.1 qs.reverse).1 = s2 at *
  have hl : s1.length = s2.length := by omega
  obtain ⟨a, n, sa, t1, t2, t3, rfl, hm, us, k, hus, hds⟩ := rank_inv h1
  obtain ⟨a', n', sa', t1', t2', t3', rfl, hm', us', k', hus', hds'⟩ := rank_inv h2
  rw [keyLt'_oneType]
  have d1 : DatIn news (.ref sa) (.list (s1.map .int)) := .list hus hds
  have d2 : DatIn news (.ref sa') (.list (s2.map .int)) := .list hus' hds'
  by_cases e : s1 = s2
  · subst e
    have hr : r1 ≠ r2 := fun q => hk (by rw [q])
    have hd : decide (s1 ++ [r1] < s1 ++ [r2]) = decide (r1 < r2) := by
      have q := lt_snoc hl r1 r2
      by_cases z : r1 < r2
      · rw [decide_eq_true z, decide_eq_true (q.mpr (.inr ⟨rfl, z⟩))]
      · rw [decide_eq_false z, decide_eq_false fun y => ?_]
        rcases q.mp y with y | y
        · exact List.lt_irrefl _ y
        · exact z y.2
    rw [hd] at h
    refine oneLt_lists (d := 1) ⟨_, N.get hm, rfl, n, rfl⟩ ⟨_, N.get hm', rfl, n', rfl⟩ (by omega) (by simp) (by simp) (fun j g1 g2 hj => ?_) ?_ ?_ h
    · obtain rfl : j = 0 := by omega
      exact eqAt_dat N d1 d2 (kqd_ints _ 7) (kqd_ints _ 7) (by simp only [Around.in1_units]; omega) (by simp)
    · refine fun prog w E Q h => wpAny_eqBool_int ?_
      have : (r1 == r2) = false := by simpa using hr
      rw [this]; exact h
    · exact LtAt.ints
  · have hd : decide (s1 ++ [r1] < s2 ++ [r2]) = decide (s1 < s2) := by
      have q := lt_snoc hl r1 r2
      by_cases z : s1 < s2
      · rw [decide_eq_true z, decide_eq_true (q.mpr (.inl z))]
      · rw [decide_eq_false z, decide_eq_false fun y => ?_]
        rcases q.mp y with y | y
        · exact z y
        · exact e y.1
    rw [hd] at h
    refine oneLt_lists (d := 0) ⟨_, N.get hm, rfl, n, rfl⟩ ⟨_, N.get hm', rfl, n', rfl⟩ (by omega) (by simp) (by simp) (fun j g1 g2 hj => by omega) ?_ ?_ h
    · exact eqAt_dat N d1 d2 (kqd_ints _ 7) (kqd_ints _ 7) (by simp only [Around.in1_units]; omega) ⟨(fun q => by cases q), (fun q => absurd (ints_inj q) e)⟩
    · exact ltAt_ints N hus hus' hds hds' hl e (by simp only [Around.in1_units]; omega)
end
end Mine
end PartX3

section PartX4
open PySem PySem.W PyProof.Rows
open PySem.SeqAt
namespace Mine
def keyLt (qs : List Pass) (a b : Card) : Prop := keyOf qs a < keyOf qs b
theorem list_tot {a b : List Int} (hne : a ≠ b) (h : ¬ a < b) : b < a := by
  refine Classical.byContradiction fun q => hne ?_
  exact List.le_antisymm (List.not_lt.mp q) (List.not_lt.mp h)
section
variable {cs : List Card} {qs : List Pass}
def ltAtC (qs : List Pass) (cs : List Card) (i j : Nat) : Bool := decide (keyOf qs (cs.getD i (0, 0)) < keyOf qs (cs.getD j (0, 0)))
theorem strict_of (hk : ∀ i j, i < cs.length → j < cs.length → i ≠ j → keyOf qs (cs.getD i (0, 0)) ≠ keyOf qs (cs.getD j (0, 0))) : Strict (ltAtC qs cs) cs.length where
  tot i j hi hj hij h := decide_eq_true (list_tot (hk i j hi hj hij) (of_decide_eq_false h))
  asym i j _ _ h := decide_eq_false (List.lt_asymm (of_decide_eq_true h))
  trans i j k _ _ _ h1 h2 := decide_eq_true (List.lt_trans (of_decide_eq_true h1) (of_decide_eq_true h2))
theorem range_getD {α : Type} (xs : List α) (d : α) : (List.range xs.length).map (fun i => xs.getD i d) = xs := by
  apply List.ext_getElem
  · simp
  · intro i h1 h2
    simp at h1
    simp [h2]
theorem datAll_pick {news : List (Addr × Obj)} {vs : List Value} {α : Type} {gd : α → Dat} {xs : List α} {d : α} (h : DatAll news vs (xs.map gd)) : ∀ (is : List Nat), (∀ i ∈ is, i < xs.length) → DatAll news (is.map fun i => vs.getD i .none) ((is.map fun i => xs.getD i d).map gd)
  | [], _ => .nil
  | i :: is, hi => by
    have hlt := hi i (.head _)
    obtain ⟨v, hv, hd⟩ := dat_at h (List.getElem?_eq_getElem hlt)
    have e1 : vs.getD i .none = v := by simp [List.getD, hv]
    have e2 : xs.getD i d = xs[i] := by simp [hlt]
    simp only [List.map_cons, e1, e2]
    exact .cons hd (datAll_pick h is fun j hj => hi j (.tail _ hj))
end
section
variable {prog : Program} {w : World} {A : Around} {E : Value → Shared → Prop} {s : Shared} {h₀ : Heap} {L rk : Addr} {m : Str → Option Value} {news : List (Addr × Obj)}
theorem my_sorted {rv : List Value} {n : Nat} {qs : List Pass} {cs : List Card} {Q : Value → Shared → Prop} (F : Fr h₀ L s.heap m) (N : News h₀ L s.heap news) (hrk : (rk, listOf rv.toArray n) ∈ news) (hR : DatAll news rv (cs.map (rankD qs))) (h2 : 2 ≤ cs.length) (h64 : cs.length < 64)
    (hk : ∀ i j, i < cs.length → j < cs.length → i ≠ j → keyOf qs (cs.getD i (0, 0)) ≠ keyOf qs (cs.getD j (0, 0))) (hu : A.units + 40 < cLine)
    (h : ∀ D c h' rv' (cs' : List Card), Fr h₀ L h' m → News h₀ L h' ((D, listOf (List.toArray rv') c) :: news) → (∀ q ∈ news, q.1 < D) → cs'.Perm cs → DatAll news rv' (cs'.map (rankD qs)) → cs'.Pairwise (keyLt qs) → Q (.ref D) { s with heap := h' }) :
    wpAny (model prog w) A (call (.builtin "sorted") [.ref rk]) Q E s := by
  have hlen := hR.length
  rw [List.length_map] at hlen
  have hrefs : ∀ v ∈ rv, ∃ a vs k, v = .ref a ∧ (a, listOf (List.toArray vs) k) ∈ news := by
    intro v hv
    obtain ⟨i, hi, he⟩ := List.getElem_of_mem hv
    obtain ⟨v', hv', hd⟩ := dat_at hR (List.getElem?_eq_getElem (show i < cs.length by omega))
    rw [List.getElem?_eq_getElem hi, he] at hv'
    obtain rfl : v = v' := Option.some.inj hv'
    obtain ⟨a, k, sa, t1, t2, t3, e, hm, _⟩ := rank_inv hd
    exact ⟨a, _, k, e, hm⟩
  refine kas_sorted (T := .type "list") F N ⟨_, N.get hrk, rfl, n, rfl⟩ (by omega) (by omega) ?_ (by decide) ?_
  · intro h' F' N' v hv
    obtain ⟨a, vs, k, rfl, hm⟩ := hrefs v hv
    exact (Looks.ld (N'.get hm)).andThen .now
  · intro D e1 h' F' N' l1
    rw [hlen]
    have S := strict_of hk
    refine okay_run (lt := ltAtC qs cs) (n := cs.length) (fun i j hi hj hij C hC => ?_) (fun p hp => ?_) _ (ok_sort S h2)
    · unfold kas_ask
      obtain ⟨v1, hv1, hd1⟩ := dat_at hR (List.getElem?_eq_getElem hi)
      obtain ⟨v2, hv2, hd2⟩ := dat_at hR (List.getElem?_eq_getElem hj)
      have f1 : rv.getD i .none = v1 := by simp [List.getD, hv1]
      have f2 : rv.getD j .none = v2 := by simp [List.getD, hv2]
      have g1 : cs.getD i (0, 0) = cs[i] := by simp [hi]
      have g2 : cs.getD j (0, 0) = cs[j] := by simp [hj]
      have sub : ∀ q ∈ news, q ∈ (D, seqObj "list" #[] e1) :: news := fun q hq => .tail _ hq
      have hk' := hk i j hi hj hij
      rw [g1, g2] at hk'
      rw [f1, f2]
      refine rank_ask N' (hd1.mono sub) (hd2.mono sub) hk' (by simp only [Around.in1_units]; omega) ?_
      unfold ltAtC at hC
      rw [g1, g2] at hC
      exact hC
    · obtain ⟨A', hS⟩ := hp
      refine KasFin.intro F' N' (.head fun q hq => Nat.ne_of_lt (l1 q hq)) fun h'' c F'' N'' => ?_
      have hlt : ∀ i ∈ p.toList, i < cs.length := fun i hi => by simpa using A'.perm.mem_iff.mp hi
      refine h D c h'' _ (p.toList.map fun i => cs.getD i (0, 0)) F'' N'' l1 ?_ (datAll_pick hR _ hlt) ?_
      · have q := A'.perm.map (fun i => cs.getD i (0, 0))
        rw [range_getD] at q
        exact q
      · rw [List.pairwise_map, List.pairwise_iff_getElem]
        intro i j hi hj hij
        have hsz := A'.size
        have q := hS i j hij (by simpa [hsz] using hj)
        have e1 : g p i = p.toList[i] := by simp [g, Array.getD, hsz, show i < cs.length by simpa [hsz] using hi]
        have e2 : g p j = p.toList[j] := by simp [g, Array.getD, hsz, show j < cs.length by simpa [hsz] using hj]
        rw [e1, e2] at q
        unfold ltAtC at q
        unfold keyLt
        exact of_decide_eq_true q
end
end Mine
end PartX4

section PartY1
open PySem PySem.W PyProof.Rows
namespace Mine
/-- the end of a comprehension's turn -/
def CompEnd (h₀ : Heap) (C L : Addr) (m : Str → Option Value) (hd : List (Addr × Obj)) (off : Addr → Prop) (J : List (Addr × Obj) → Prop) (s₁ s₂ : Shared) : Prop :=
  ∃ h' tk mc' nw' oL, s₂ = { s₁ with heap := h', toks := tk } ∧ Fr h₀ C h' mc' ∧ News h₀ C h' ((L, oL) :: (hd ++ nw')) ∧ (∀ h' : Heap, h'.get? L = some oL → h'.Ns L m) ∧ (∀ q ∈ nw', off q.1) ∧ J nw'
section
variable {prog : Program} {w : World} {A : Around} {s : Shared} {env : Env} {h₀ : Heap} {L : Addr} {Q : Value → Shared → Prop} {E : Value → Shared → Prop} {elt target iter : PySem.Expr} {ifs : List PySem.Expr} {scope : Scope} {cl : List (Str × Addr)} {pos : Pos}
theorem comp_loop_any {it acc : Value} {R : Result → Shared → Prop} {cenv : Env} (I : Nat → Shared → Prop)
    (turn : ∀ n s, I n s → wpAny (model prog w) A (pyNext it) (fun r s₁ => match r with
      | none => R (.ok .next) s₁
      | some v => wpAny (model prog w) A (letOwnedTupleGo target it v) (fun _ s₁' => wpAny (model prog w) A (assign target cenv v) (fun _ s₂ =>
          wpAny (model prog w) A (forIn ifs true fun c r => if r = true then do let ok ← isTrue c cenv (eval c cenv); pure (ForInStep.yield ok) else pure (ForInStep.yield r)) (fun ok s₃ =>
            if ok = true then wpAny (model prog w) A (eval elt cenv) (fun x s₄ =>
              wpAny (model prog w) A (call (.builtin "list.append") [acc, x]) (fun _ s₅ => ∃ m, m < n ∧ I m s₅) (fun _ _ => False) s₄) (fun _ _ => False) s₃
            else ∃ m, m < n ∧ I m s₃) (fun _ _ => False) s₂) (fun _ _ => False) s₁') (fun _ _ => False) s₁) (fun _ _ => False) s)
    (n : Nat) (h : I n s) :
    codeAny (model prog w) A (.compLoop (.ListComp elt [⟨target, iter, ifs, 0⟩] scope pos) 0 it acc cenv) R s := by
  refine codeAny_loop rfl I (fun n s hI => ?_) n h
  show wpAny _ A ((compTurn (.ListComp elt [⟨target, iter, ifs, 0⟩] scope pos) 0 it acc cenv).onRaise (fun x => do noteFrame x cenv; theTreesLotGoes x)) _ _ s
  refine wpAny_noted ?_
  rw [compTurn_list]
  refine wpAny_bind (wpAny_standAt (wpAny_bind (wpAny_mono (turn n s hI) (fun r s₁ h₁ => ?_) fun _ _ h' => h'.elim)))
  cases r with
  | none => exact wpAny_pure h₁
  | some v =>
    refine wpAny_bind (wpAny_mono h₁ (fun _ s₁' h₁' => ?_) fun _ _ h' => h'.elim)
    refine wpAny_bind (wpAny_mono h₁' (fun _ s₂ h₂ => wpAny_bind (wpAny_mono h₂ (fun ok s₃ h₃ => ?_) fun _ _ h' => h'.elim)) fun _ _ h' => h'.elim)
    cases ok with
    | false => exact wpAny_pure ⟨rfl, h₃⟩
    | true =>
      exact wpAny_bind (wpAny_bind (wpAny_mono h₃ (fun x s₄ h₄ => wpAny_bind (wpAny_mono h₄ (fun _ s₅ h₅ => wpAny_pure (wpAny_pure ⟨rfl, h₅⟩)) fun _ _ h' => h'.elim)) fun _ _ h' => h'.elim))
theorem comp_list {l : Addr} {vs : List Value} {m : Str → Option Value} {nw₀ : List (Addr × Obj)} (J : Nat → List Value → List (Addr × Obj) → Prop) (hLe : env.locals = L)
    (hcells : ∀ y ∈ scope.names, y.2 ≠ .cell) (hkind : scope.kind = .function) (hh : A.handled = none) (F : Fr h₀ L s.heap m) (N : News h₀ L s.heap nw₀) (hJ : J 0 [] nw₀) (hmem : ∀ i av nw, J i av nw → ∃ n, (l, listOf vs.toArray n) ∈ nw) (hsz : vs.length < 10000) (hlen : ∀ i av nw, J i av nw → av.length ≤ i)
    (hgo : ∀ (I : Addr) (i : Nat) (v : Value) (s : Shared) (Q : Unit → Shared → Prop) (E : Value → Shared → Prop), v ∈ vs → s.heap.IsListIter I l i → Q () s → wpAny (model prog w) A (letOwnedTupleGo target (.ref I) v) Q E s)
    (turn : ∀ i v I it C D oL av n mc nw h tk, vs[i]? = some v → J i av nw → (∀ q ∈ nw₀, q.1 < I ∧ q.1 < C ∧ q.1 < D) → (L < C ∧ L < I ∧ L < D) → (∀ q ∈ nw, q.1 ≠ I ∧ q.1 ≠ C ∧ q.1 ≠ D ∧ q.1 ≠ L) → (∀ h' : Heap, h'.get? L = some oL → h'.Ns L m) → Fr h₀ C h mc → News h₀ C h ([(L, oL), (D, listOf (List.toArray av) n), (I, it)] ++ nw) →
      wpAny (model prog w) A (assign target (compEnvC scope cl C env) v) (fun _ s₂ =>
        wpAny (model prog w) A (forIn ifs true fun c r => if r = true then do let ok ← isTrue c (compEnvC scope cl C env) (eval c (compEnvC scope cl C env)); pure (ForInStep.yield ok) else pure (ForInStep.yield r)) (fun ok s₃ =>
          if ok = true then wpAny (model prog w) A (eval elt (compEnvC scope cl C env)) (fun x s₄ => CompEnd h₀ C L m [(D, listOf (List.toArray av) n), (I, it)] (fun a => a ≠ I ∧ a ≠ C ∧ a ≠ D ∧ a ≠ L) (J (i + 1) (av ++ [x])) { s with heap := h, toks := tk } s₄) (fun _ _ => False) s₃
          else CompEnd h₀ C L m [(D, listOf (List.toArray av) n), (I, it)] (fun a => a ≠ I ∧ a ≠ C ∧ a ≠ D ∧ a ≠ L) (J (i + 1) av) { s with heap := h, toks := tk } s₃) (fun _ _ => False) s₂) (fun _ _ => False) { s with heap := h, toks := tk })
    (done : ∀ D n av nw h tk, J vs.length av nw → (∀ q ∈ nw, q.1 ≠ D) → (∀ q ∈ nw₀, q.1 < D) → Fr h₀ L h m → News h₀ L h ((D, listOf (List.toArray av) n) :: nw) → Q (.ref D) { s with heap := h, toks := tk }) :
    wpAny (model prog w) A (pyIter (.ref l)) (fun it s₂ => wpAny (model prog w) A (newList []) (fun acc s₃ => wpAny (model prog w) A (newFunctionEnv scope env.globals cl [] env.qual none .none (some env)) (fun cenv s₄ =>
      codeAny (model prog w) A (.compStart (.ListComp elt [⟨target, iter, ifs, 0⟩] scope pos) 0 it acc { cenv with scope := relabel scope env }) (compPost (model prog w) A E none Q acc cenv.locals) s₄) E s₃) E s₂) E s := by
  subst hLe
  obtain ⟨n₀, hm₀⟩ := hmem _ _ _ hJ
  have hl : s.heap.IsList l vs.toArray := ⟨_, N.get hm₀, rfl, n₀, rfl⟩
  refine wpAny_pyIter_list hl ?_
  refine wpAny_newObj_type (wpAny_newFunctionEnv hcells (by intro y hy; simp at hy) (fun h₁ hns₁ hsb₁ => ?_) hkind)
  dsimp only at hns₁ hsb₁ ⊢
  have hH2 : ((s.heap.push { cls := .type "list_iterator", data := .fields #[.ref l, .int 0 0] }).push { cls := .type "list", dict := none, data := .seq ([] : List Value).toArray }).objs.size = s.heap.objs.size + 2 := by rw [Heap.size_push, Heap.size_push]
  have hDs : (s.heap.push { cls := .type "list_iterator", data := .fields #[.ref l, .int 0 0] }).objs.size = s.heap.objs.size + 1 := by rw [Heap.size_push]
  have o1 := Heap.get?_push_size (h := s.heap) (o := { cls := .type "list_iterator", data := .fields #[.ref l, .int 0 0] }) rfl
  have o2 := Heap.get?_push_size (h := s.heap.push { cls := .type "list_iterator", data := .fields #[.ref l, .int 0 0] }) (o := { cls := .type "list", dict := none, data := .seq ([] : List Value).toArray }) rfl
  have old2 : ∀ b o, s.heap.get? b = some o → ((s.heap.push { cls := .type "list_iterator", data := .fields #[.ref l, .int 0 0] }).push { cls := .type "list", dict := none, data := .seq ([] : List Value).toArray }).get? b = some o := fun b o e => Heap.get?_push_of_some _ (Heap.get?_push_of_some _ e)
  have o1' := Heap.get?_push_of_some { cls := .type "list", dict := none, data := .seq ([] : List Value).toArray } o1
  rw [hDs] at o2
  generalize hH : (s.heap.push { cls := .type "list_iterator", data := .fields #[.ref l, .int 0 0] }).push { cls := .type "list", dict := none, data := .seq ([] : List Value).toArray } = H2 at *
  rw [hH2] at hns₁ hsb₁ ⊢
  rw [hDs]
  generalize hI : s.heap.objs.size = I at *
  have lt1 : I < I + 1 := Nat.lt_succ_self I
  have lt12 : I + 1 < I + 2 := Nat.lt_succ_self _
  have lt2 : I < I + 2 := Nat.lt_trans lt1 lt12
  have ext : ∀ b o, b ≠ I + 2 → H2.get? b = some o → h₁.get? b = some o := fun b o hb e => hsb₁.extBut b o hb (Heap.get?_push_of_some _ e)
  have hLI : env.locals < I := by rw [← hI]; exact F.ns.lt
  have hltI : ∀ q ∈ nw₀, q.1 < I := fun q hq => by rw [← hI]; exact Heap.lt_size (N q hq).1
  obtain ⟨oL, es, ep, hoL, hdL, hkL, hfL⟩ := F.ns
  have nsL : ∀ h' : Heap, h'.get? env.locals = some oL → h'.Ns env.locals m := fun h' e => ⟨oL, es, ep, e, hdL, hkL, hfL⟩
  have fresh : ∀ b, env.locals ≤ b → h₀.get? b = none := fun b hb => Heap.get?_none_of_le (Nat.le_trans F.above hb)
  have hLlt : s.heap.get? env.locals = some oL := hoL
  have keep₁ : ∀ b o, s.heap.get? b = some o → h₁.get? b = some o := fun b o e => ext b o (Nat.ne_of_lt (Nat.lt_trans (show b < I from hI ▸ Heap.lt_size e) lt2)) (old2 b o e)
  have FC : Fr h₀ (I + 2) h₁ (fun x => ([] : List (Str × Value)).reverse.lookup x) := ⟨hns₁, fun b o e => keep₁ b o (F.keep b o e), Nat.le_trans F.above (Nat.le_of_lt (Nat.lt_trans hLI lt2))⟩
  have loop : ∀ s₃ : Shared, s₃ = { s with heap := h₁, toks := s.toks + ([] : List (Str × Value)).length } →
      codeAny (model prog w) A (.compLoop (.ListComp elt [⟨target, iter, ifs, 0⟩] scope pos) 0 (.ref I) (.ref (I + 1)) (compEnvC scope cl (I + 2) env)) (compPost (model prog w) A E none Q (.ref (I + 1)) (I + 2)) s₃ := by
    rintro s₃ rfl
    refine comp_loop_any (fun k s' => ∃ h' tk mc nw i it av n oL, (∀ h' : Heap, h'.get? env.locals = some oL → h'.Ns env.locals m) ∧ s' = { s with heap := h', toks := tk } ∧ Fr h₀ (I + 2) h' mc ∧ News h₀ (I + 2) h' ([(env.locals, oL), (I + 1, listOf (List.toArray av) n), (I, it)] ++ nw) ∧ h'.IsListIter I l i ∧ (∀ q ∈ nw, q.1 ≠ I ∧ q.1 ≠ I + 2 ∧ q.1 ≠ I + 1 ∧ q.1 ≠ env.locals) ∧ J i av nw ∧ i ≤ vs.length ∧ k = vs.length + 1 - i) ?_ (vs.length + 1)
      ⟨h₁, _, _, nw₀, 0, { cls := .type "list_iterator", data := .fields #[.ref l, .int 0 0] }, [], 0, oL, nsL, rfl, FC, ?_, ⟨_, ext I _ (by omega) o1', rfl, rfl⟩, ?_, hJ, Nat.zero_le _, rfl⟩
    · rintro k s' ⟨h', tk, mc, nw, i, it, av, n, oL, nsL, rfl, F', N', hit, hoff, hJi, hi, rfl⟩
      obtain ⟨nl, hm⟩ := hmem _ _ _ hJi
      have hl' : h'.IsList l vs.toArray := ⟨_, N'.get (List.mem_append_right _ hm), rfl, nl, rfl⟩
      have hnI : h₀.get? I = none := fresh _ (Nat.le_of_lt hLI)
      by_cases hlt : i < vs.length
      · have hx : vs[i]? = some vs[i] := List.getElem?_eq_getElem hlt
        refine wpAny_pyNext_list_item hit hl' (x := vs[i]) (by simpa using hx) fun h₂ hit₂ hs₂ => ?_
        have F₂ : Fr h₀ (I + 2) h₂ mc := F'.change hs₂ (Nat.ne_of_lt lt2) hnI
        have hit₂' := hit₂
        obtain ⟨o₂, ho₂, _⟩ := hit₂'
        have N₂ : News h₀ (I + 2) h₂ ([(env.locals, oL), (I + 1, listOf (List.toArray av) n), (I, o₂)] ++ nw) := fun q hq => by
          simp only [List.cons_append, List.nil_append, List.mem_cons] at hq
          have nn := fun (q : Addr × Obj) (hq : q ∈ [(env.locals, oL), (I + 1, listOf (List.toArray av) n), (I, it)] ++ nw) => N' q hq
          rcases hq with rfl | rfl | rfl | hq
          · exact ⟨(hs₂.2 _ (Nat.ne_of_lt hLI)).trans (nn _ (.head _)).1, (nn _ (.head _)).2⟩
          · exact ⟨(hs₂.2 (I + 1) (Nat.succ_ne_self I)).trans (nn _ (.tail _ (.head _))).1, (nn _ (.tail _ (.head _))).2⟩
          · exact ⟨ho₂, (nn _ (.tail _ (.tail _ (.head _)))).2⟩
          · exact ⟨(hs₂.2 q.1 (hoff q hq).1).trans (nn q (List.mem_append_right _ hq)).1, (nn q (List.mem_append_right _ hq)).2⟩
        refine hgo _ (i + 1) _ _ _ _ (List.getElem_mem hlt) hit₂ ?_
        have itAgain : ∀ h₃ : Heap, h₃.get? I = some o₂ → h₃.IsListIter I l (i + 1) := fun h₃ e => by
          obtain ⟨o', ho', hc', hd'⟩ := hit₂
          obtain rfl : o₂ = o' := Option.some.inj (ho₂.symm.trans ho')
          exact ⟨o₂, e, hc', hd'⟩
        refine wpAny_mono (turn i vs[i] I o₂ (I + 2) (I + 1) oL av n mc nw h₂ tk hx hJi (fun q hq => ⟨hltI q hq, Nat.lt_trans (hltI q hq) (by omega), Nat.lt_trans (hltI q hq) (by omega)⟩) ⟨Nat.lt_trans hLI (by omega), hLI, Nat.lt_trans hLI (by omega)⟩ hoff nsL F₂ N₂) (fun _ s₂ h₂ => wpAny_mono h₂ (fun ok s₃ h₃ => ?_) fun _ _ e => e) fun _ _ e => e
        cases ok with
        | false =>
          simp only [Bool.false_eq_true, if_false] at h₃ ⊢
          obtain ⟨h₄, tk₄, mc₄, nw₄, oL₄, rfl, F₄, N₄, ns₄, off₄, J₄⟩ := h₃
          exact ⟨vs.length + 1 - (i + 1), by omega, h₄, tk₄, mc₄, nw₄, i + 1, o₂, av, n, oL₄, ns₄, rfl, F₄, N₄, itAgain _ (N₄.get (.tail _ (.tail _ (.head _)))), off₄, J₄, hlt, rfl⟩
        | true =>
          simp only [if_true] at h₃ ⊢
          refine wpAny_mono h₃ (fun x s₄ h₄ => ?_) fun _ _ e => e
          obtain ⟨h₅, tk₅, mc₅, nw₅, oL₅, rfl, F₅, N₅, ns₅, off₅, J₅⟩ := h₄
          have hav := hlen _ _ _ hJi
          have offD : ∀ q ∈ (I, o₂) :: nw₅, q.1 ≠ I + 1 := fun q hq => by
            rcases List.mem_cons.mp hq with rfl | hq
            · exact (Nat.succ_ne_self I).symm
            · exact (off₅ q hq).2.2.1
          refine append_K F₅ N₅ (.tail (Nat.ne_of_lt (Nat.lt_trans hLI (by omega))) (.head offD)) ?_ (by rw [List.size_toArray, sizeLine_eq]; omega)
          intro h₆ F₆ N₆
          rw [List.push_toArray] at N₆
          exact ⟨vs.length + 1 - (i + 1), by omega, h₆, tk₅, mc₅, nw₅, i + 1, o₂, av ++ [x], n + 1, oL₅, ns₅, rfl, F₆, N₆, itAgain _ (N₆.get (.tail _ (.tail _ (.head _)))), off₅, J₅, hlt, rfl⟩
      · have hie : i = vs.length := by omega
        subst hie
        refine wpAny_pyNext_list_end hh hit hl' (by simp) fun h₂ he₂ => ?_
        refine ⟨mc, F'.ns.extBut he₂ (Nat.ne_of_gt lt2), fun h₃ hs₃ => ?_⟩
        have go : ∀ b o, b ≠ I → b ≠ I + 2 → h'.get? b = some o → h₃.get? b = some o := fun b o b1 b2 e => (hs₃.2 b b2).trans (he₂ b o b1 e)
        have hLo := (N' (env.locals, oL) (.head _)).1
        refine done (I + 1) n av nw h₃ tk hJi (fun q hq => (hoff q hq).2.2.1) (fun q hq => Nat.lt_trans (hltI q hq) (by omega)) ⟨nsL h₃ (go _ _ (Nat.ne_of_lt hLI) (Nat.ne_of_lt (Nat.lt_trans hLI (by omega))) hLo), fun b o e => ?_, F.above⟩ fun q hq => ?_
        · have e' := F'.keep b o e
          refine go b o (fun z => ?_) (fun z => ?_) e'
          · rw [z, hnI] at e; cases e
          · rw [z, fresh _ (Nat.le_of_lt (Nat.lt_trans hLI (by omega)))] at e; cases e
        · rcases List.mem_cons.mp hq with rfl | hq
          · have nn := N' (I + 1, listOf (List.toArray av) n) (.tail _ (.head _))
            exact ⟨go _ _ (Nat.succ_ne_self I) (by show I + 1 ≠ I + 2; omega) nn.1, Nat.ne_of_gt (Nat.lt_trans hLI (by omega)), nn.2.2⟩
          · have nn := N' q (List.mem_append_right _ hq)
            exact ⟨go _ _ (hoff q hq).1 (hoff q hq).2.1 nn.1, (hoff q hq).2.2.2, nn.2.2⟩
    · intro q hq
      simp only [List.cons_append, List.nil_append, List.mem_cons] at hq
      rcases hq with rfl | rfl | rfl | hq
      · exact ⟨keep₁ _ _ hLlt, Nat.ne_of_lt (Nat.lt_trans hLI (by omega)), fresh _ (Nat.le_refl _)⟩
      · exact ⟨ext _ _ (by show I + 1 ≠ I + 2; omega) o2, (by show I + 1 ≠ I + 2; omega), fresh _ (Nat.le_of_lt (Nat.lt_trans hLI (by omega)))⟩
      · exact ⟨ext _ _ (by omega) o1', (by show I ≠ I + 2; omega), fresh _ (Nat.le_of_lt hLI)⟩
      · exact ⟨keep₁ _ _ (N q hq).1, Nat.ne_of_lt (Nat.lt_trans (hltI q hq) (by omega)), (N q hq).2.2⟩
    · intro q hq
      exact ⟨Nat.ne_of_lt (hltI q hq), Nat.ne_of_lt (Nat.lt_trans (hltI q hq) (by omega)), Nat.ne_of_lt (Nat.lt_trans (hltI q hq) (by omega)), (N q hq).2.1⟩
  exact codeAny_compStart_list (loop _ rfl) (wpAny_pyIter_listiter ⟨_, ext I _ (by omega) o1', rfl, rfl⟩ (loop _ rfl))
end
end Mine
end PartY1

section PartY2
open PySem PySem.W PyProof.Rows
namespace Mine
local macro_rules | `(tactic| k_mem) => `(tactic| with_reducible assumption)
section
variable {M : Model} {A : Around} {E : Value → Shared → Prop} {s : Shared} {h₀ : Heap} {C : Addr} {m : Str → Option Value} {news : List (Addr × Obj)}
theorem ldE {env : Env} {x : Str} {pos : Pos} {v : Value} {Q : Value → Shared → Prop} (F : Fr h₀ C s.heap m) (hv : m x = some v) (h : Q v s) (hC : env.locals = C) (hk : env.scope.kind = .function) (hl : env.kindOf x = some .local) (hd : (x == ("__debug__" : Str)) = false) :
    wpAny M A (eval (.Name x pos) env) Q E s := by
  subst hC
  exact wpAny_Name (wpAny_loadName_local hk hl F.ns hv h) hd
theorem stE {env : Env} {x : Str} {v : Value} {Q : Unit → Shared → Prop} (F : Fr h₀ C s.heap m) (N : News h₀ C s.heap news)
    (h : ∀ h', Fr h₀ C h' (fun y => if y = x then some v else m y) → News h₀ C h' news → Q () { s with heap := h', toks := s.toks + 1 }) (hC : env.locals = C) (hk : env.scope.kind = .function) (hl : env.kindOf x = some .local) :
    wpAny M A (storeName env x v) Q E s := by
  subst hC
  exact wpAny_storeName_local hl F.ns (fun h' hn hs => h h' (F.set hn hs) (N.set hs)) (by rw [hk]; rfl)
end
local macro_rules | `(tactic| walk_at "eval Name") => `(tactic| (k_here; k_dflt (refine' ldE ?F ?v ?_ ?c ?k ?l ?d; (case F => k_asm); (case c => exact rfl); (case k => exact rfl); (case l => exact rfl); (case d => decide); (case v => first | exact rfl | assumption); k_whole)))
local macro_rules | `(tactic| walk_at "storeName") => `(tactic| (k_here; k_dflt (refine' stE ?F ?N ?_ ?c ?k ?l; (case F => k_asm); (case N => k_asm); (case c => exact rfl); (case k => exact rfl); (case l => exact rfl); k_whole); intro h' F' N'))
local macro_rules | `(tactic| walk_at "exec For Tuple Name cons nil") => `(tactic| (refine Hold.out ?_))
local macro_rules | `(tactic| walk_at "pyIter ref") => `(tactic| (refine Hold.out ?_))
local macro_rules | `(tactic| walk_at "call builtin:sorted") => `(tactic| (refine Hold.out ?_))
local macro_rules | `(tactic| walk_at "eval ListComp") => `(tactic| (refine Hold.out ?_))
theorem card_end {h₀ h' : Heap} {C L' D I x : Addr} {it oL : Obj} {av : List Value} {n nx tk : Nat} {m mc : Str → Option Value} {new bs : List (Addr × Obj)} {cs' : List Card} {i : Nat} {t2 t3 : Tok} {s₁ : Shared} (hi : i < cs'.length) (hns : ∀ h' : Heap, h'.get? L' = some oL → h'.Ns L' m)
    (F : Fr h₀ C h' mc) (N : News h₀ C h' ((x, listOf #[.int cs'[i].1 t2, .int cs'[i].2 t3] nx) :: ([(L', oL), (D, listOf (List.toArray av) n), (I, it)] ++ (new ++ bs)))) (l : ∀ q ∈ [(L', oL), (D, listOf (List.toArray av) n), (I, it)] ++ (new ++ bs), q.1 < x)
    (offs : ∀ q ∈ new ++ bs, q.1 ≠ I ∧ q.1 ≠ C ∧ q.1 ≠ D ∧ q.1 ≠ L') (hlt : ∀ q ∈ new, ∀ r ∈ bs, r.1 < q.1) (hA : DatAll new av ((cs'.take i).map cardD)) (hav : av.length = i) :
    CompEnd h₀ C L' m [(D, listOf (List.toArray av) n), (I, it)] (fun a => a ≠ I ∧ a ≠ C ∧ a ≠ D ∧ a ≠ L') (fun nw => ∃ new, nw = new ++ bs ∧ (∀ q ∈ new, ∀ r ∈ bs, r.1 < q.1) ∧ DatAll new (av ++ [.ref x]) ((cs'.take (i + 1)).map cardD) ∧ (av ++ [Value.ref x]).length = i + 1) s₁ { s₁ with heap := h', toks := tk } := by
  refine ⟨h', tk, mc, (x, listOf #[.int cs'[i].1 t2, .int cs'[i].2 t3] nx) :: (new ++ bs), oL, rfl, F, fun q hq => N q ?_, hns, fun q hq => ?_, (x, listOf #[.int cs'[i].1 t2, .int cs'[i].2 t3] nx) :: new, rfl, fun q hq r hr => ?_, ?_, by simp [hav]⟩
  · simp only [List.mem_cons, List.mem_append, List.not_mem_nil, or_false] at hq ⊢
    rcases hq with h1 | (h1 | h1) | h1 | h1 | h1 <;> simp [h1]
  · rcases List.mem_cons.mp hq with rfl | hq
    · exact ⟨Nat.ne_of_gt (l (I, it) (.tail _ (.tail _ (.head _)))), (N _ (.head _)).2.1, Nat.ne_of_gt (l (D, _) (.tail _ (.head _))), Nat.ne_of_gt (l (L', oL) (.head _))⟩
    · exact offs q hq
  · rcases List.mem_cons.mp hq with rfl | hq
    · exact l r (List.mem_append_right _ (List.mem_append_right _ hr))
    · exact hlt q hq r hr
  · rw [← List.take_append_getElem hi, List.map_append]
    exact (hA.mono fun q hq => .tail _ hq).append (.cons (.list (.head _) (.cons (.int _ _) (.cons (.int _ _) .nil))) .nil)
theorem row_fin {h₀ h' : Heap} {L x D rk : Addr} {m : Str → Option Value} {news new rest' : List (Addr × Obj)} {oD oR : Obj} {n : Nat} {av : List Value} {cs cs' : List Card} {qs : List Pass} {R : Prop}
    (h : ∀ n xv add (cs' : List Card), Fr h₀ L h' m → News h₀ L h' (add ++ news) → (∀ q ∈ add, ∀ r ∈ news, r.1 < q.1) → (x, listOf (List.toArray xv) n) ∈ add → DatAll add xv (cs'.map cardD) → cs'.Perm cs → cs'.Pairwise (keyLt qs) → R)
    (F : Fr h₀ L h' m) (N : News h₀ L h' ((x, listOf (List.toArray av) n) :: (new ++ ((D, oD) :: (rk, oR) :: rest')))) (hlt : ∀ q ∈ new, ∀ r ∈ (D, oD) :: (rk, oR) :: rest', r.1 < q.1) (lo : ∀ q ∈ (D, oD) :: (rk, oR) :: rest', q.1 < x) (sub : ∀ q ∈ news, q ∈ rest') (hA : DatAll new av (cs'.map cardD)) (hp : cs'.Perm cs) (hw : cs'.Pairwise (keyLt qs)) : R := by
  refine h n av ((x, listOf (List.toArray av) n) :: new) cs' F (fun q hq => N q ?_) (fun q hq r hr => ?_) (.head _) (hA.mono fun q hq => .tail _ hq) hp hw
  · rcases List.mem_append.mp hq with hq | hq
    · rcases List.mem_cons.mp hq with rfl | hq
      · exact .head _
      · exact .tail _ (List.mem_append_left _ hq)
    · exact .tail _ (List.mem_append_right _ (.tail _ (.tail _ (sub q hq))))
  · rcases List.mem_cons.mp hq with rfl | hq
    · exact lo r (.tail _ (.tail _ (sub r hr)))
    · exact hlt q hq r (.tail _ (.tail _ (sub r hr)))
section
variable {w : World} {A : Around} {base h₀ : Heap} {outer : List Env} {env : Env} {L : Addr} {s : Shared} {m mg mb : Str → Option Value} {news : List (Addr × Obj)} {p : Program} {loose : List Str} {mean : ExcName → Option Value} {Q : Value → Shared → Prop} {E : Value → Shared → Prop}
set_option maxRecDepth 100000 in
set_option maxHeartbeats 1000000 in
theorem c_row {ca pa : Addr} {cv pv : List Value} {nc np : Nat} {cs : List Card} {qs : List Pass} (B : Below A base outer h₀) (F : Fr h₀ L s.heap m) (X₀ : (hd.heap_39 w.params).In h₀) (N : News h₀ L s.heap news) (T : Top p loose mean mg mb h₀) (hf : env.frame = some L) (hke : env.scope.kind = .function)
   (hroom : A.depth + 40 < recursionLimit) (hu : A.units + 80 < cLine) (hh : A.handled = none) (hca : (ca, listOf cv.toArray nc) ∈ news) (hC : DatAll news cv (cs.map cardD)) (hpa : (pa, listOf pv.toArray np) ∈ news) (hP : DatAll news pv (qs.map passD))
   (hq : ∀ q ∈ qs, 1 ≤ q.2.2 ∧ q.2.2 ≤ 256) (hsz : qs.length < 5000) (h2 : 2 ≤ cs.length) (h64 : cs.length < 64) (hk : ∀ i j, i < cs.length → j < cs.length → i ≠ j → keyOf qs (cs.getD i (0, 0)) ≠ keyOf qs (cs.getD j (0, 0)))
   (h : ∀ h' tk x n xv add (cs' : List Card), Fr h₀ L h' m → News h₀ L h' (add ++ news) → (∀ q ∈ add, ∀ r ∈ news, r.1 < q.1) → (x, listOf (List.toArray xv) n) ∈ add → DatAll add xv (cs'.map cardD) → cs'.Perm cs → cs'.Pairwise (keyLt qs) → Q (.ref x) { s with heap := h', toks := tk }) :
   wpAny (model PySem.Challenge.rw_pe0101_01.row.prog w) (A.deeper env) (call (.ref 97) [.ref ca, .ref pa] []) Q E s := by
  revert X₀
  k_fill
  intro X₀
  refine wpAny_call ?_
  refine' code_def B F X₀ N T (Around.frames_deeper B.stack) hf hke ?k6 ?k7 (by show A.depth + 1 < _; omega) ?k9 ?kB ?_ ?c2 ?c3 ?c4 ?c5
  (case k6 => k_is); (case k7 => k_is);  (case k9 => exact BindsTo.of_eq rfl); (case c5 => decide); (case kB => exact locs rfl); (case c2 => exact rfl); (case c3 => exact rfl); (case c4 => exact rfl)
  intro g' L' h' FG' F' N' B' X' T'; (try dsimp only)
  refine wpAny_mono (E := fun _ _ => False) ?_ (fun _ _ h => h) (fun _ _ h => h.elim)
  k_steps
  rename Fr _ _ _ _ => Fx
  rename News _ _ _ _ => Nx
  rename_i rk _ _ _ l1 _
  show wpAny _ _ _ _ _ _
  refine row_loop (rest := news) (qs := qs) (cs := cs) B' Fx X' Nx T' (by simp only [depth_deeper]; omega) hh hC hca hP hpa hq hsz (by omega) rfl rfl ⟨[], _, news, rfl, fun _ h => h, fun q hq => Nat.ne_of_lt (l1 q hq), .nil, rfl, rfl, rfl⟩ ?_
  intro h3 tk3 m3 nw3 F3 N3 J3
  clear Fx Nx
  obtain ⟨rv, n3, rest', rfl, sub, off, hR, hrl, mr, mp⟩ := J3
  show wpAny _ _ _ _ _ _
  k_steps
  show wpAny _ _ (eval (PySem.Expr.ListComp _ _ _ _) _) _ _ _
  rw [eval_ListComp]
  refine wpAny_comprehension_free (use := none) (cl := []) rfl (by intro _; rfl) rfl rfl (by decide) ?_
  show wpAny _ _ (eval (PySem.Expr.Call _ _ _ _) _) _ _ _
  k_steps
  show wpAny _ _ _ _ _ _
  refine my_sorted F3 N3 (.head _) (hR.mono fun q hq => .tail _ hq) h2 h64 hk (by simp only [units_deeper]; omega) ?_
  intro D c h4 rv' cs' F4 N4 l4 hperm hD hpw
  have hlc : cs'.length = cs.length := hperm.length_eq
  have hlr : rv'.length = cs'.length := by have := hD.length; rwa [List.length_map] at this
  have hrefs : ∀ v ∈ rv', ∃ a, v = .ref a := dat_refs hD
  refine comp_list (cl := []) (vs := rv') (fun i av nw => ∃ new, nw = new ++ ((D, listOf (List.toArray rv') c) :: (rk, listOf (List.toArray rv) n3) :: rest') ∧ (∀ q ∈ new, ∀ r ∈ (D, listOf (List.toArray rv') c) :: (rk, listOf (List.toArray rv) n3) :: rest', r.1 < q.1) ∧ DatAll new av ((cs'.take i).map cardD) ∧ av.length = i) rfl (by decide) rfl hh F4 N4 ⟨[], rfl, (fun _ h => nomatch h), .nil, rfl⟩ ?_ (by omega) ?_ (go_tuple hrefs) ?_ ?_
  · rintro i av nw ⟨new, rfl, _⟩
    exact ⟨c, List.mem_append_right _ (.head _)⟩
  · rintro i av nw ⟨new, rfl, _, _, e⟩
    omega
  · rintro i v I it C D2 oL av n mc nw h5 tk5 hv ⟨new, rfl, hlt, hA, hav⟩ lo hLC offs hns F5 N5
    have hi : i < cs'.length := by rw [← hlr]; exact (List.getElem?_eq_some_iff.mp hv).1
    obtain ⟨v', hv', hd⟩ := dat_at hD (List.getElem?_eq_getElem hi)
    rw [hv] at hv'
    cases hv'
    obtain ⟨a, na, sa, t1, t2, t3, rfl, hm, _⟩ := rank_inv hd
    have hl2 : h5.IsList a _ := ⟨_, N5.get (List.mem_append_right _ (List.mem_append_right _ (.tail _ hm))), rfl, _, rfl⟩
    refine kun_list F5 N5 hl2 hh rfl rfl ?_
    intro h6 F6 N6
    clear F5 N5 F4 N4 F3 N3
    k_steps
    rename Fr _ _ _ _ => Fx
    rename News _ _ _ _ => Nx
    exact card_end hi hns Fx Nx (by assumption) offs hlt hA hav
  · rintro D2 n av nw h5 tk5 ⟨new, rfl, hlt, hA, hav⟩ off lo F5 N5
    rw [hlr, List.take_length] at hA
    k_steps
    exact row_fin (h _ _ _) (by assumption) (by assumption) hlt lo sub hA hperm hpw
end
end Mine
end PartY2

section PartP4
open PySem PySem.W
namespace Mine
/-- the signs, begun with a turn told -/
noncomputable def sgn (v : Int) (b : Bool) : List Pass → List Int × Bool
  | [] => ([], b)
  | q :: r => let p := sgn v (b != q.2.1) r; ((if yesB q.1 q.2.2 v == b then 0 else 1) :: p.1, p.2)
theorem sgn_fold (v : Int) : ∀ (rev : List Pass) (acc : List Int × Bool), rev.foldl (signStep v) acc = (acc.1 ++ (sgn v acc.2 rev).1, (sgn v acc.2 rev).2)
  | [], acc => by simp [sgn]
  | q :: r, acc => by
    rw [List.foldl_cons, sgn_fold v r]
    simp [sgn, signStep]
theorem signs_sgn (v : Int) (rev : List Pass) : signsOf v rev = sgn v false rev := by
  unfold signsOf
  rw [sgn_fold]
  simp
def flip1 (xs : List Int) : List Int := xs.map fun x => 1 - x
theorem sgn_flip (v : Int) : ∀ (rev : List Pass) (b : Bool), sgn v (!b) rev = (flip1 (sgn v b rev).1, !(sgn v b rev).2)
  | [], b => by simp [sgn, flip1]
  | q :: r, b => by
    have e : ((!b) != q.2.1) = !(b != q.2.1) := by cases b <;> cases q.2.1 <;> rfl
    simp only [sgn]
    rw [e, sgn_flip v r]
    simp only [flip1, List.map_cons]
    congr 2
    cases yesB q.1 q.2.2 v <;> cases b <;> simp
theorem sgn_turn (v v' : Int) : ∀ (rev : List Pass) (b : Bool), (sgn v b rev).2 = (sgn v' b rev).2
  | [], _ => rfl
  | q :: r, b => sgn_turn v v' r _
theorem sgn_len (v : Int) : ∀ (rev : List Pass) (b : Bool), (sgn v b rev).1.length = rev.length
  | [], _ => rfl
  | q :: r, b => by simp [sgn, sgn_len v r]
theorem flip_lt : ∀ (xs ys : List Int), xs.length = ys.length → (flip1 xs < flip1 ys ↔ ys < xs)
  | [], [], _ => by simp [flip1]
  | [], _ :: _, h => by simp at h
  | _ :: _, [], h => by simp at h
  | x :: xs, y :: ys, h => by
    have ih := flip_lt xs ys (by simpa using h)
    simp only [flip1, List.map_cons, List.cons_lt_cons_iff] at ih ⊢
    rw [ih]
    constructor
    · rintro (h | h)
      · exact .inl (by omega)
      · exact .inr ⟨by omega, h.2⟩
    · rintro (h | h)
      · exact .inl (by omega)
      · exact .inr ⟨by omega, h.2⟩
theorem flip_inj {xs ys : List Int} (h : flip1 xs = flip1 ys) : xs = ys := by
  unfold flip1 at h
  exact (List.map_inj_right (fun a b e => by omega)).mp h
theorem key_eq (qs : List Pass) (c : Card) : keyOf qs c = (sgn c.1 false qs.reverse).1 ++ [if (sgn c.1 false qs.reverse).2 then -c.2 else c.2] := by
  unfold keyOf; rw [signs_sgn]
theorem key_snoc (qs : List Pass) (q : Pass) (a b : Card) :
    keyLt (qs ++ [q]) a b ↔ ((yesB q.1 q.2.2 a.1 = false ∧ yesB q.1 q.2.2 b.1 = true) ∨ (yesB q.1 q.2.2 a.1 = yesB q.1 q.2.2 b.1 ∧ (if q.2.1 then keyLt qs b a else keyLt qs a b))) := by
  unfold keyLt
  rw [key_eq, key_eq, key_eq, key_eq]
  simp only [List.reverse_append, List.reverse_cons, List.reverse_nil, List.nil_append, List.cons_append, sgn, Bool.false_bne]
  have la := sgn_len a.1 qs.reverse false
  have lb := sgn_len b.1 qs.reverse false
  have ht := sgn_turn a.1 b.1 qs.reverse false
  have fa := sgn_flip a.1 qs.reverse false
  have fb := sgn_flip b.1 qs.reverse false
  rw [Bool.not_false] at fa fb
  rw [List.cons_lt_cons_iff]
  have tail : ((sgn a.1 q.2.1 qs.reverse).1 ++ [if (sgn a.1 q.2.1 qs.reverse).2 then -a.2 else a.2] < (sgn b.1 q.2.1 qs.reverse).1 ++ [if (sgn b.1 q.2.1 qs.reverse).2 then -b.2 else b.2]) ↔
      (if q.2.1 then ((sgn b.1 false qs.reverse).1 ++ [if (sgn b.1 false qs.reverse).2 then -b.2 else b.2] < (sgn a.1 false qs.reverse).1 ++ [if (sgn a.1 false qs.reverse).2 then -a.2 else a.2])
       else ((sgn a.1 false qs.reverse).1 ++ [if (sgn a.1 false qs.reverse).2 then -a.2 else a.2] < (sgn b.1 false qs.reverse).1 ++ [if (sgn b.1 false qs.reverse).2 then -b.2 else b.2])) := by
    cases q.2.1 with
    | false => simp
    | true =>
      rw [fa, fb]
      simp only [if_true]
      rw [lt_snoc (by simp [flip1, la, lb]), lt_snoc (by omega), flip_lt _ _ (by omega), ht]
      have e : flip1 (sgn a.1 false qs.reverse).1 = flip1 (sgn b.1 false qs.reverse).1 ↔ (sgn b.1 false qs.reverse).1 = (sgn a.1 false qs.reverse).1 := ⟨fun h => (flip_inj h).symm, fun h => by rw [h]⟩
      rw [e]
      have e2 : ((if (!(sgn b.1 false qs.reverse).2) = true then -a.2 else a.2) < (if (!(sgn b.1 false qs.reverse).2) = true then -b.2 else b.2)) ↔ ((if (sgn b.1 false qs.reverse).2 = true then -b.2 else b.2) < (if (sgn b.1 false qs.reverse).2 = true then -a.2 else a.2)) := by
        cases (sgn b.1 false qs.reverse).2 <;> simp <;> omega
      rw [e2]
  rw [tail]
  cases yesB q.1 q.2.2 a.1 <;> cases yesB q.1 q.2.2 b.1 <;> simp
theorem key_ne {qs : List Pass} {a b : Card} (h : a.2 ≠ b.2) : keyOf qs a ≠ keyOf qs b := by
  rw [key_eq, key_eq, sgn_turn a.1 b.1]
  intro e
  have q := (List.append_inj e (by rw [sgn_len, sgn_len])).2
  have q2 : (if (sgn b.1 false qs.reverse).2 = true then -a.2 else a.2) = (if (sgn b.1 false qs.reverse).2 = true then -b.2 else b.2) := by
    injection q
  cases hh : (sgn b.1 false qs.reverse).2 <;> rw [hh] at q2 <;> simp at q2 <;> omega
def Ok (q : Pass) : Prop := ∀ x, viewB q.1 q.2.2 x = yesB q.1 q.2.2 x
theorem laid_rows (cs : List Card) (hc : cs.Pairwise fun a b => a.2 < b.2) : ∀ (rev : List Pass), (∀ q ∈ rev, Ok q) → (rev.reverse.foldl laidStep ⟨[], [], cs⟩).R.Perm cs ∧ (rev.reverse.foldl laidStep ⟨[], [], cs⟩).R.Pairwise (keyLt rev.reverse)
  | [], _ => by
    refine ⟨List.Perm.refl _, ?_⟩
    refine hc.imp fun {a b} h => ?_
    unfold keyLt keyOf
    simp [signsOf, List.cons_lt_cons_iff, h]
  | q :: rev, hq => by
    obtain ⟨hp, hw⟩ := laid_rows cs hc rev fun q h => hq q (.tail _ h)
    have ok := hq q (.head _)
    rw [List.reverse_cons, List.foldl_append]
    generalize rev.reverse.foldl laidStep ⟨[], [], cs⟩ = st at *
    simp only [List.foldl_cons, List.foldl_nil, laidStep]
    have pf : ∀ c : Card, passB q c = yesB q.1 q.2.2 c.1 := fun c => ok c.1
    have comp : ∀ l : List Card, (l.filter (fun c => !passB q c) ++ l.filter (passB q)).Perm l := fun l => by
      refine List.perm_append_comm.trans ?_
      exact List.filter_append_perm (passB q) l
    refine ⟨?_, ?_⟩
    · refine List.Perm.trans ?_ hp
      unfold part
      cases q.2.1 with
      | true =>
        simp only [if_true, partL]
        exact ((List.reverse_perm _).append (List.reverse_perm _)).trans (comp _)
      | false =>
        simp only [Bool.false_eq_true, if_false, partR]
        exact comp _
    · unfold part
      have side : ∀ b : Bool, (st.R.filter fun c => passB q c == b).Pairwise (fun a c => keyLt rev.reverse a c ∧ yesB q.1 q.2.2 a.1 = b ∧ yesB q.1 q.2.2 c.1 = b) := fun b => by
        have h1 : (st.R.filter fun c => passB q c == b).Pairwise (keyLt rev.reverse) := hw.filter _
        refine List.Pairwise.imp_of_mem ?_ h1
        intro a c ha hc h
        have ha' := (List.mem_filter.mp ha).2
        have hc' := (List.mem_filter.mp hc).2
        rw [pf] at ha' hc'
        exact ⟨h, by simpa using ha', by simpa using hc'⟩
      have e0 : st.R.filter (fun c => !passB q c) = st.R.filter fun c => passB q c == false := by congr 1; funext c; cases passB q c <;> rfl
      have e1 : st.R.filter (passB q) = st.R.filter fun c => passB q c == true := by congr 1; funext c; cases passB q c <;> rfl
      have m0 : ∀ c ∈ st.R.filter (fun c => passB q c == false), yesB q.1 q.2.2 c.1 = false := fun c h => by
        have := (List.mem_filter.mp h).2; rw [pf] at this; simpa using this
      have m1 : ∀ c ∈ st.R.filter (fun c => passB q c == true), yesB q.1 q.2.2 c.1 = true := fun c h => by
        have := (List.mem_filter.mp h).2; rw [pf] at this; simpa using this
      cases hl : q.2.1 with
      | true =>
        simp only [if_true, partL]
        rw [e0, e1, List.pairwise_append, List.pairwise_reverse, List.pairwise_reverse]
        refine ⟨?_, ?_, ?_⟩
        · refine (side false).imp fun {a b} h => (key_snoc _ _ _ _).mpr (.inr ⟨by rw [h.2.1, h.2.2], ?_⟩)
          rw [if_pos hl]; exact h.1
        · refine (side true).imp fun {a b} h => (key_snoc _ _ _ _).mpr (.inr ⟨by rw [h.2.1, h.2.2], ?_⟩)
          rw [if_pos hl]; exact h.1
        · intro a ha b hb
          exact (key_snoc _ _ _ _).mpr (.inl ⟨m0 a (List.mem_reverse.mp ha), m1 b (List.mem_reverse.mp hb)⟩)
      | false =>
        simp only [Bool.false_eq_true, if_false, partR]
        rw [e0, e1, List.pairwise_append]
        refine ⟨?_, ?_, ?_⟩
        · refine (side false).imp fun {a b} h => (key_snoc _ _ _ _).mpr (.inr ⟨by rw [h.2.1, h.2.2], ?_⟩)
          rw [if_neg (by rw [hl]; decide)]; exact h.1
        · refine (side true).imp fun {a b} h => (key_snoc _ _ _ _).mpr (.inr ⟨by rw [h.2.1, h.2.2], ?_⟩)
          rw [if_neg (by rw [hl]; decide)]; exact h.1
        · intro a ha b hb
          exact (key_snoc _ _ _ _).mpr (.inl ⟨m0 a ha, m1 b hb⟩)
theorem sorted_unique {α : Type} {r : α → α → Prop} (has : ∀ a b, r a b → ¬ r b a) : ∀ (xs ys : List α), xs.Perm ys → xs.Pairwise r → ys.Pairwise r → xs = ys
  | [], ys, hp, _, _ => (List.Perm.nil_eq hp)
  | x :: xs, [], hp, _, _ => by have := hp.length_eq; simp at this
  | x :: xs, y :: ys, hp, h1, h2 => by
    rw [List.pairwise_cons] at h1 h2
    have e : x = y := by
      have hx : x ∈ y :: ys := hp.mem_iff.mp (.head _)
      have hy : y ∈ x :: xs := hp.mem_iff.mpr (.head _)
      rcases List.mem_cons.mp hx with h | h
      · exact h
      · rcases List.mem_cons.mp hy with h' | h'
        · exact h'.symm
        · exact absurd (h2.1 x h) (has _ _ (h1.1 y h'))
    subst e
    rw [sorted_unique has xs ys (List.Perm.cons_inv hp) h1.2 h2.2]
theorem row_is {cs cs' : List Card} {qs : List Pass} (hc : cs.Pairwise fun a b => a.2 < b.2) (hq : ∀ q ∈ qs, Ok q) (hp : cs'.Perm cs) (hw : cs'.Pairwise (keyLt qs)) : cs' = (qs.foldl laidStep ⟨[], [], cs⟩).R := by
  have h := laid_rows cs hc qs.reverse fun q h => hq q (List.mem_reverse.mp h)
  rw [List.reverse_reverse] at h
  refine sorted_unique (fun a b h => List.lt_asymm h) _ _ (hp.trans h.1.symm) hw h.2
theorem cnt_is {cs : List Card} {qs : List Pass} (hc : cs.Pairwise fun a b => a.2 < b.2) (hq : ∀ q ∈ qs, Ok q) {q : Pass} (hq' : Ok q) : cntF (passB q) (qs.foldl laidStep ⟨[], [], cs⟩).R = cntF (fun c => yesB q.1 q.2.2 c.1) cs := by
  have h := laid_rows cs hc qs.reverse fun q h => hq q (List.mem_reverse.mp h)
  rw [List.reverse_reverse] at h
  unfold cntF
  have e : passB q = fun c => yesB q.1 q.2.2 c.1 := funext fun c => hq' c.1
  rw [e]
  exact (h.1.filter _).length_eq
end Mine
end PartP4

section PartP5
open PySem PySem.W
namespace Mine
theorem ok0 (x pt h f : Int) (hp : 0 < pt) (hh : 0 < h) (e1 : (256 : Int).fdiv pt = h) (e2 : (512 : Int).fdiv pt = f) (hf : 0 < f) (a : decide ((x * pt) % 512 < 256) = decide (x / h % 2 = 0)) (b : decide (256 ≤ (x * pt) % 512) = decide (x / h % 2 = 1)) (c : decide ((x * pt) % 512 = 0) = decide (x % f = 0))
    (k : Int) (hk : k = 0 ∨ k = 1 ∨ k = 2) : viewB k pt x = yesB k pt x := by
  unfold viewB yesB
  rw [e1, e2, Int.fmod_eq_emod_of_nonneg _ (show (0 : Int) ≤ 512 by decide), Int.fdiv_eq_ediv_of_nonneg _ (Int.le_of_lt hh), Int.fmod_eq_emod_of_nonneg _ (show (0 : Int) ≤ 2 by decide), Int.fmod_eq_emod_of_nonneg _ (Int.le_of_lt hf)]
  rcases hk with rfl | rfl | rfl
  · simpa using a
  · simpa using b
  · simpa using c
theorem ok_all (e : Nat) (he : e ≤ 8) (k : Int) (hk : k = 0 ∨ k = 1 ∨ k = 2) (x : Int) : viewB k (2 ^ e) x = yesB k (2 ^ e) x := by
  have hcases : e = 0 ∨ e = 1 ∨ e = 2 ∨ e = 3 ∨ e = 4 ∨ e = 5 ∨ e = 6 ∨ e = 7 ∨ e = 8 := by omega
  rcases hcases with rfl | rfl | rfl | rfl | rfl | rfl | rfl | rfl | rfl
  · exact ok0 x 1 256 512 (by decide) (by decide) rfl rfl (by decide) (decide_eq_decide.mpr (by omega)) (decide_eq_decide.mpr (by omega)) (decide_eq_decide.mpr (by omega)) k hk
  · exact ok0 x 2 128 256 (by decide) (by decide) rfl rfl (by decide) (decide_eq_decide.mpr (by omega)) (decide_eq_decide.mpr (by omega)) (decide_eq_decide.mpr (by omega)) k hk
  · exact ok0 x 4 64 128 (by decide) (by decide) rfl rfl (by decide) (decide_eq_decide.mpr (by omega)) (decide_eq_decide.mpr (by omega)) (decide_eq_decide.mpr (by omega)) k hk
  · exact ok0 x 8 32 64 (by decide) (by decide) rfl rfl (by decide) (decide_eq_decide.mpr (by omega)) (decide_eq_decide.mpr (by omega)) (decide_eq_decide.mpr (by omega)) k hk
  · exact ok0 x 16 16 32 (by decide) (by decide) rfl rfl (by decide) (decide_eq_decide.mpr (by omega)) (decide_eq_decide.mpr (by omega)) (decide_eq_decide.mpr (by omega)) k hk
  · exact ok0 x 32 8 16 (by decide) (by decide) rfl rfl (by decide) (decide_eq_decide.mpr (by omega)) (decide_eq_decide.mpr (by omega)) (decide_eq_decide.mpr (by omega)) k hk
  · exact ok0 x 64 4 8 (by decide) (by decide) rfl rfl (by decide) (decide_eq_decide.mpr (by omega)) (decide_eq_decide.mpr (by omega)) (decide_eq_decide.mpr (by omega)) k hk
  · exact ok0 x 128 2 4 (by decide) (by decide) rfl rfl (by decide) (decide_eq_decide.mpr (by omega)) (decide_eq_decide.mpr (by omega)) (decide_eq_decide.mpr (by omega)) k hk
  · exact ok0 x 256 1 2 (by decide) (by decide) rfl rfl (by decide) (decide_eq_decide.mpr (by omega)) (decide_eq_decide.mpr (by omega)) (decide_eq_decide.mpr (by omega)) k hk
end Mine
end PartP5

section PartT1
open PySem PySem.W PyProof.Rows
namespace Mine
def rit (n i : Nat) : Obj := { cls := .type "range_iterator", data := .fields #[rawInt (i : Int), rawInt ((n : Int) - (i : Int)), rawInt 1] }
theorem rit_is {h : Heap} {I : Addr} {n i : Nat} : IsRangeIter h I (i : Int) ((n : Int) - (i : Int)) 1 ↔ h.get? I = some (rit n i) := Iff.rfl
section
variable {prog : Program} {w : World} {A : Around} {s : Shared} {env : Env} {h₀ : Heap} {target : PySem.Expr} {body : List Stmt}
theorem for_range {r : Addr} {n : Nat} {t₀ u₀ v₀ : Tok} {x : Str} {px : Pos} {m₀ : Str → Option Value} {nw₀ : List (Addr × Obj)} {Q : Flow → Shared → Prop} {E : Value → Shared → Prop} (J : Nat → (Str → Option Value) → List (Addr × Obj) → Prop)
    (hh : A.handled = none) (F : Fr h₀ env.locals s.heap m₀) (N : News h₀ env.locals s.heap nw₀) (hr : IsRange s.heap r 0 (n : Int) 1 t₀ u₀ v₀) (hn : n < 10000) (hJ : J 0 m₀ nw₀)
    (turn : ∀ i t I it m nw h tk, i < n → J i m nw → (∀ q ∈ nw, q.1 ≠ I) → (∀ q ∈ nw₀, q.1 < I) → Fr h₀ env.locals h m → News h₀ env.locals h ((I, it) :: nw) →
      wpAny (model prog w) A (assign (.Name x px) env (.int (i : Int) t)) (fun _ s₂ => wpAny (model prog w) A (execs body env) (TurnEnd h₀ env.locals I it (J (i + 1)) { s with heap := h, toks := tk }) (fun _ _ => False) s₂) (fun _ _ => False) { s with heap := h, toks := tk })
    (done : ∀ m nw h tk, J n m nw → Fr h₀ env.locals h m → News h₀ env.locals h nw → Q .next { s with heap := h, toks := tk }) :
    wpAny (model prog w) A (pyIter (.ref r)) (fun it s₂ => codeAny (model prog w) A (.forLoop (.Name x px) it body [] env) (fun r s' => match r with | .ok f => Q f s' | .error e => cameBackBy (model prog w) A env E e s') s₂) E s := by
  have hsz : Builtin.Range.rangeSize 0 (n : Int) 1 = (n : Int) := by
    unfold Builtin.Range.rangeSize
    split <;> simp <;> omega
  refine wpAny_pyIter_range hr (small_one (by decide) (by decide) (by omega) (by omega)) ?_
  rw [hsz]
  have hnew := next_is_new F
  have hIL : s.heap.objs.size ≠ env.locals := Nat.ne_of_gt F.ns.lt
  have hlt₀ : ∀ q ∈ nw₀, q.1 < s.heap.objs.size := fun q hq => Heap.lt_size (N q hq).1
  refine codeAny_forLoop_any
    (fun k s' => ∃ h' tk m nw i, s' = { s with heap := h', toks := tk } ∧ Fr h₀ env.locals h' m ∧ News h₀ env.locals h' ((s.heap.objs.size, rit n i) :: nw) ∧ (∀ q ∈ nw, q.1 ≠ s.heap.objs.size) ∧ J i m nw ∧ i ≤ n ∧ k = n + 1 - i) ?_ (n + 1)
    ⟨_, s.toks, m₀, nw₀, 0, rfl, F.push _, ?_, fun q hq => Nat.ne_of_lt (hlt₀ q hq), hJ, Nat.zero_le _, rfl⟩
  · rintro k s' ⟨h', tk, m, nw, i, rfl, F', N', hoff, hJi, hi, rfl⟩
    have hit : IsRangeIter h' s.heap.objs.size (i : Int) ((n : Int) - (i : Int)) 1 := N'.get (.head _)
    by_cases hlt : i < n
    · refine wpAny_pyNext_range_item hit (by omega) fun h₁ hit₁ hs₁ => ?_
      have F₁ : Fr h₀ env.locals h₁ m := F'.change hs₁ hIL hnew
      have ho₁ : h₁.get? s.heap.objs.size = some (rit n (i + 1)) := by
        have e : (i : Int) + 1 = ((i + 1 : Nat) : Int) := by push_cast; rfl
        have e2 : (n : Int) - (i : Int) - 1 = (n : Int) - ((i + 1 : Nat) : Int) := by push_cast; omega
        rw [e, e2] at hit₁
        exact hit₁
      have N₁ : News h₀ env.locals h₁ ((s.heap.objs.size, rit n (i + 1)) :: nw) := news_cons (fun q hq => ⟨(hs₁.2 q.1 (hoff q hq)).trans (N' q (.tail _ hq)).1, (N' q (.tail _ hq)).2⟩) ho₁ hIL hnew
      refine wpAny_pure ?_
      refine wpAny_mono (turn i tk s.heap.objs.size (rit n (i + 1)) m nw h₁ (tk + 1) hlt hJi hoff hlt₀ F₁ N₁) (fun _ s₂ h₂ => wpAny_mono h₂ (fun f s₃ h₃ => ?_) fun _ _ e => e.elim) fun _ _ e => e.elim
      obtain ⟨rfl, h₃', tk₃, m₃, nw₃, rfl, F₃, N₃, hoff₃, hJ₃⟩ := h₃
      exact ⟨n + 1 - (i + 1), by omega, h₃', tk₃, m₃, nw₃, i + 1, rfl, F₃, N₃, hoff₃, hJ₃, hlt, rfl⟩
    · have hie : i = n := by omega
      subst hie
      refine wpAny_pyNext_range_end hh hit (by omega) fun h₁ he₁ => ?_
      refine wpAny_execs_nil ?_
      refine done m nw h₁ tk hJi ⟨F'.ns.extBut he₁ hIL.symm, fun b o e => he₁ b o (fun q => by rw [q, hnew] at e; cases e) (F'.keep b o e), F'.above⟩ fun q hq => ⟨he₁ _ _ (hoff q hq) (N' q (.tail _ hq)).1, (N' q (.tail _ hq)).2⟩
  · have e0 : rit n 0 = { cls := .type "range_iterator", data := .fields #[rawInt 0, rawInt (n : Int), rawInt 1] } := by unfold rit; simp
    rw [e0]
    exact news_cons (fun q hq => ⟨Heap.get?_push_of_some _ (N q hq).1, (N q hq).2⟩) (Heap.get?_push_size _ rfl) hIL hnew
end
section
variable {h₀ h : Heap} {C L : Addr} {m mc : Str → Option Value} {oL : Obj} {rest : List (Addr × Obj)}
theorem Fr.ob (F : Fr h₀ C h mc) : ∃ oC, h.get? C = some oC ∧ ∀ h' : Heap, h'.get? C = some oC → h'.Ns C mc := by
  obtain ⟨o, es, ep, ho, hd, hk, hf⟩ := F.ns
  exact ⟨o, ho, fun h' e => ⟨o, es, ep, e, hd, hk, hf⟩⟩
/-- the other frame, from a comprehension's -/
theorem swap_fr (F : Fr h₀ C h mc) (N : News h₀ C h ((L, oL) :: rest)) (hns : ∀ h' : Heap, h'.get? L = some oL → h'.Ns L m) (ha : h₀.objs.size ≤ L) (off : ∀ q ∈ rest, q.1 ≠ L) :
    ∃ oC, (∀ h' : Heap, h'.get? C = some oC → h'.Ns C mc) ∧ Fr h₀ L h m ∧ News h₀ L h ((C, oC) :: rest) := by
  obtain ⟨oC, ho, hC⟩ := Fr.ob F
  refine ⟨oC, hC, ⟨hns h (N.get (.head _)), F.keep, ha⟩, fun q hq => ?_⟩
  rcases List.mem_cons.mp hq with rfl | hq
  · exact ⟨ho, Ne.symm (N _ (.head _)).2.1, Heap.get?_none_of_le F.above⟩
  · exact ⟨(N q (.tail _ hq)).1, off q hq, (N q (.tail _ hq)).2.2⟩
end
section
variable {w : World} {A : Around} {base h₀ : Heap} {outer : List Env} {env : Env} {L C : Addr} {s : Shared} {m mc mg mb : Str → Option Value} {oL : Obj} {rest : List (Addr × Obj)} {p : Program} {loose : List Str} {mean : ExcName → Option Value} {Q : Value → Shared → Prop} {E : Value → Shared → Prop}
theorem c_yes_in {k pt v : Int} {t1 t2 t3 : Tok} (B : Below A base outer h₀) (F : Fr h₀ C s.heap mc) (X₀ : (hd.heap_39 w.params).In h₀) (N : News h₀ C s.heap ((L, oL) :: rest)) (T : Top p loose mean mg mb h₀) (hf : env.frame = some L) (hke : env.scope.kind = .function)
   (hroom : A.depth + 5 < recursionLimit) (hp : 1 ≤ pt ∧ pt ≤ 256) (hns : ∀ h' : Heap, h'.get? L = some oL → h'.Ns L m) (ha : h₀.objs.size ≤ L) (off : ∀ q ∈ rest, q.1 ≠ L) (offC : ∀ q ∈ rest, q.1 ≠ C)
   (h : ∀ h' tk oL', (∀ h' : Heap, h'.get? L = some oL' → h'.Ns L m) → Fr h₀ C h' mc → News h₀ C h' ((L, oL') :: rest) → Q (.bool (yesB k pt v)) { s with heap := h', toks := tk }) :
   wpAny (model PySem.Challenge.rw_pe0101_01.row.prog w) (A.deeper env) (call (.ref 92) [.int k t1, .int pt t2, .int v t3] []) Q E s := by
  obtain ⟨oC, hC, F', N'⟩ := swap_fr F N hns ha off
  refine c_yes B F' X₀ N' T hf hke hroom hp fun h' tk F2 N2 => ?_
  obtain ⟨oL', hL', F3, N3⟩ := swap_fr F2 N2 hC F.above offC
  exact h h' tk oL' hL' F3 N3
end
end Mine
end PartT1

section PartT2
open PySem PySem.W PyProof.Rows
namespace Mine
local macro_rules | `(tactic| k_mem) => `(tactic| with_reducible assumption)
section
variable {M : Model} {A : Around} {E : Value → Shared → Prop} {s : Shared} {K : Frag} {h₀ : Heap} {C c : Addr} {o : Obj} {m mg mb : Str → Option Value} {news : List (Addr × Obj)} {p : Program} {loose : List Str} {mean : ExcName → Option Value}
theorem ldCell {env : Env} {x : Str} {pos : Pos} {v : Value} {Q : Value → Shared → Prop} (N : News h₀ C s.heap news) (hc : env.cells.lookup x = some c) (hm : (c, o) ∈ news) (hd : o.data = .cell (some v)) (h : Q v s) (hk : env.scope.kind = .function) (hx : env.kindOf x = some .cell) (hb : (x == ("__debug__" : Str)) = false) :
    wpAny M A (eval (.Name x pos) env) Q E s := wpAny_Name (wpAny_loadName_cell hk hx hc ⟨o, N.get hm, hd⟩ h) hb
theorem ldGlob {env : Env} {x : Str} {pos : Pos} {v : Value} {Q : Value → Shared → Prop} (F : Fr h₀ C s.heap m) (X : K.In h₀) (T : TopRead p loose mg mb h₀) (e : nsIn K mainGlobals x = some (some v)) (h : Q v s) (hg : env.globals = mainGlobals) (hk : env.scope.kind = .function) (hx : env.kindOf x = some .globalImplicit) (hb : (x == ("__debug__" : Str)) = false) :
    wpAny M A (eval (.Name x pos) env) Q E s := PySem.Calls.Name_function_global hk hx (PySem.Calls.loadGlobal_global (env := env) (by rw [hg]; exact T.g.keeps F.keep) (mg_of X T.g e) h) hb
end
local macro_rules | `(tactic| walk_at "eval Name") => `(tactic| (k_here; k_dflt (refine' ldE ?F ?v ?_ ?c ?k ?l ?d; (case F => k_asm); (case c => exact rfl); (case k => exact rfl); (case l => exact rfl); (case d => decide); (case v => first | exact rfl | assumption); k_whole)))
local macro_rules | `(tactic| walk_at "eval Name") => `(tactic| (k_here; k_dflt (refine' ldCell ?N ?c ?m ?v ?_ ?k ?l ?d; (case N => k_asm); (case k => exact rfl); (case l => exact rfl); (case d => decide); (case c => exact rfl); (case m => exact List.mem_cons_of_mem _ (List.mem_cons_of_mem _ (List.mem_cons_of_mem _ (by assumption)))); (case v => assumption); k_whole)))
local macro_rules | `(tactic| walk_at "eval Name") => `(tactic| (k_here; k_dflt (refine' ldGlob ?F ?X ?T ?e ?_ ?g ?k ?l ?d; (case F => k_asm); (case X => k_asm); (case T => k_asm); (case g => exact rfl); (case k => exact rfl); (case l => exact rfl); (case d => decide); (case e => k_is); k_whole)))
local macro_rules | `(tactic| walk_at "storeName") => `(tactic| (k_here; k_dflt (refine' stE ?F ?N ?_ ?c ?k ?l; (case F => k_asm); (case N => k_asm); (case c => exact rfl); (case k => exact rfl); (case l => exact rfl); k_whole); intro h' F' N'))
local macro_rules | `(tactic| walk_at "call ref") => `(tactic| (k_here; k_dflt (refine' c_yes_in ?B ?F ?X ?N ?T ?hf ?hk ?r ?hp ?ns ?a ?o ?oc ?_; (case B => k_asm); (case F => k_asm); (case X => k_asm); (case N => k_asm); (case T => k_asm); (case hf => rfl); (case hk => rfl); (case r => ((try simp only [depth_deeper]); omega)); (case hp => with_reducible assumption); (case ns => assumption); (case a => assumption); (case o => assumption); (case oc => assumption); k_whole); intro h' tk' oL' hns' F' N'))
def toldFor : Stmt := (bodyOf (topStmt 16)).getD 2 default
def compOf : Stmt → PySem.Expr
  | .Assign _ (.BinOp _ _ (.Call _ [e] _ _) _) _ => e
  | _ => default
def toldComp : PySem.Expr := compOf ((fBody toldFor).getD 2 default)
abbrev toldEnv (L : Addr) : Env := envOfC (Str.ofString "_law_told") (scopeOf (topStmt 16)) L 102 (.ref 101)
theorem cnt_snoc {cs : List Card} {i : Nat} (hi : i < cs.length) (b : Card → Bool) : cntF b (cs.take (i + 1)) = cntF b (cs.take i) + (if b cs[i] then 0 else 1) := by
  unfold cntF
  rw [← List.take_append_getElem hi, List.filter_append, List.length_append]
  cases hb : b cs[i] <;> simp [hb]
theorem count_end {h₀ h' : Heap} {C L D I : Addr} {it oL : Obj} {av av' : List Value} {n k tk : Nat} {m mc : Str → Option Value} {nw : List (Addr × Obj)} {s₁ : Shared}
    (hns : ∀ h' : Heap, h'.get? L = some oL → h'.Ns L m) (F : Fr h₀ C h' mc) (N : News h₀ C h' ((L, oL) :: (D, listOf (List.toArray av) n) :: (I, it) :: nw)) (offs : ∀ q ∈ nw, q.1 ≠ I ∧ q.1 ≠ C ∧ q.1 ≠ D ∧ q.1 ≠ L) (hk : av'.length = k) :
    CompEnd h₀ C L m [(D, listOf (List.toArray av) n), (I, it)] (fun a => a ≠ I ∧ a ≠ C ∧ a ≠ D ∧ a ≠ L) (fun nw' => nw' = nw ∧ av'.length = k) s₁ { s₁ with heap := h', toks := tk } :=
  ⟨h', tk, mc, nw, oL, rfl, F, N, hns, offs, rfl, hk⟩
section
variable {w : World} {A : Around} {base h₀ : Heap} {outer : List Env} {L : Addr} {s : Shared} {m mg mb : Str → Option Value} {news : List (Addr × Obj)} {p : Program} {loose : List Str} {mean : ExcName → Option Value} {Q : Value → Shared → Prop}
set_option maxRecDepth 100000 in
set_option maxHeartbeats 1000000 in
theorem told_count {ca : Addr} {cv : List Value} {nc : Nat} {cs : List Card} {kd pt : Int} {ok op : Obj} {t1 t2 : Tok} (B : Below A base outer h₀) (F : Fr h₀ L s.heap m) (X₀ : (hd.heap_39 w.params).In h₀) (N : News h₀ L s.heap news) (T : Top p loose mean mg mb h₀)
   (hroom : A.depth + 20 < recursionLimit) (hh : A.handled = none) (hca : (ca, listOf cv.toArray nc) ∈ news) (hC : DatAll news cv (cs.map cardD)) (hk1 : (L + 1, ok) ∈ news) (hk2 : ok.data = .cell (some (.int kd t1))) (hp1 : (L + 2, op) ∈ news) (hp2 : op.data = .cell (some (.int pt t2)))
   (hp : 1 ≤ pt ∧ pt ≤ 256) (hsc : cs.length < 5000) (mc : m (Str.ofString "cards") = some (.ref ca))
   (h : ∀ D n av h' tk, Fr h₀ L h' m → News h₀ L h' ((D, listOf (List.toArray av) n) :: news) → (∀ q ∈ news, q.1 < D) → av.length = cntF (fun c => yesB kd pt c.1) cs → Q (.ref D) { s with heap := h', toks := tk }) :
   wpAny (model PySem.Challenge.rw_pe0101_01.row.prog w) (A.deeper (toldEnv L)) (eval toldComp (toldEnv L)) Q (fun _ _ => False) s := by
  revert X₀
  k_fill
  intro X₀
  have e1 : scopeOf (topStmt 16) = Scope.mk _ _ _ _ _ := rfl
  have e2 : toldComp = PySem.Expr.ListComp _ [⟨PySem.Expr.Tuple _ _ _, PySem.Expr.Name _ _, [PySem.Expr.UnaryOp _ _ _], 0⟩] _ _ := rfl
  unfold toldEnv
  rw [e1, e2]
  have hlen := hC.length
  rw [List.length_map] at hlen
  rw [eval_ListComp]
  refine wpAny_comprehension_free (use := none) (cl := [(Str.ofString "part", L + 2), (Str.ofString "kind", L + 1)]) rfl (by intro _; rfl) rfl rfl (by decide) ?_
  refine ldE F mc ?_ rfl rfl rfl (by decide)
  refine comp_list (cl := [(Str.ofString "part", L + 2), (Str.ofString "kind", L + 1)]) (vs := cv) (fun i av nw => nw = news ∧ av.length = cntF (fun c => yesB kd pt c.1) (cs.take i)) rfl (by decide) rfl hh F N ⟨rfl, rfl⟩ ?_ (by omega) ?_ (go_tuple (dat_refs hC)) ?_ ?_
  · rintro i av nw ⟨rfl, _⟩
    exact ⟨nc, hca⟩
  · rintro i av nw ⟨rfl, e⟩
    rw [e]
    exact Nat.le_trans (cnt_le _ _) (by rw [List.length_take]; omega)
  · rintro i v I it C D oL av n mc' nw h5 tk5 hv ⟨rfl, hav⟩ lo hLC offs hns F5 N5
    have hi : i < cs.length := by rw [← hlen]; exact (List.getElem?_eq_some_iff.mp hv).1
    obtain ⟨cd, nk, tx, ty, hvc, hcm⟩ := DatAll.card hC (List.getElem?_eq_getElem hi)
    rw [hv] at hvc
    cases hvc
    simp only [List.cons_append, List.nil_append] at N5
    have hl2 : h5.IsList cd #[.int cs[i].1 tx, .int cs[i].2 ty] := ⟨_, N5.get (.tail _ (.tail _ (.tail _ hcm))), rfl, _, rfl⟩
    have ha : h₀.objs.size ≤ L := F.above
    refine kun_list F5 N5 hl2 hh rfl rfl ?_
    intro h6 F6 N6
    clear F5 N5 hl2 F
    have dI : I ≠ C := (N6 (I, it) (.tail _ (.tail _ (.head _)))).2.1
    have dD : D ≠ C := (N6 (D, _) (.tail _ (.head _))).2.1
    have o1 : ∀ q ∈ (D, listOf (List.toArray av) n) :: (I, it) :: nw, q.1 ≠ L := fun q hq => by
      simp only [List.mem_cons] at hq
      rcases hq with rfl | rfl | hq
      · exact Nat.ne_of_gt hLC.2.2
      · exact Nat.ne_of_gt hLC.2.1
      · exact (offs q hq).2.2.2
    have o2 : ∀ q ∈ (D, listOf (List.toArray av) n) :: (I, it) :: nw, q.1 ≠ C := fun q hq => by
      simp only [List.mem_cons] at hq
      rcases hq with rfl | rfl | hq
      · exact dD
      · exact dI
      · exact (offs q hq).2.1
    k_steps
    · rename (yesB _ _ _ = true) => hy
      rename Fr _ _ _ _ => Fx
      rename News _ _ _ _ => Nx
      exact count_end (by assumption) Fx Nx offs (by rw [cnt_snoc hi, hy, hav]; rfl)
    · rename (yesB _ _ _ = false) => hy
      rename Fr _ _ _ _ => Fx
      rename News _ _ _ _ => Nx
      exact count_end (by assumption) Fx Nx offs (by rw [cnt_snoc hi, hy, List.length_append, hav]; rfl)
  · rintro D n av nw h5 tk5 ⟨rfl, hav⟩ off lo F5 N5
    rw [hlen, List.take_length] at hav
    exact h D n av h5 tk5 F5 N5 lo hav
end
end Mine
end PartT2

section PartT3
open PySem PySem.W PyProof.Rows
namespace Mine
local macro_rules | `(tactic| k_mem) => `(tactic| with_reducible assumption)
local macro_rules | `(tactic| walk_at "eval Name") => `(tactic| (k_here; k_dflt (refine' ldE ?F ?v ?_ ?c ?k ?l ?d; (case F => k_asm); (case c => exact rfl); (case k => exact rfl); (case l => exact rfl); (case d => decide); (case v => first | exact rfl | assumption); k_whole)))
local macro_rules | `(tactic| walk_at "storeName") => `(tactic| (k_here; k_dflt (refine' storeX_C ?F ?N ?c ?U ?d ?_ ?a ?b; (case a => rfl); (case b => rfl); (case F => k_asm); (case N => k_asm); (case c => rfl); (case U => first | exact UpdF.head (by assumption) | exact UpdF.tail (by assumption) (UpdF.head (by assumption))); (case d => assumption); k_whole); intro h' o' F' N' d'; (try dsimp only at N')))
local macro_rules | `(tactic| walk_at "subscriptTail Name Name ref int") => `(tactic| (k_here; (with_reducible show wpAny _ _ (subscriptTail _ _ (Value.ref _) (Value.int _ _)) _ _ _); (with_unfolding_all refine' my_item ?k1 ?k2 ?k3 ?k4 ?k5 ?_ ?k6; (case k1 => k_asm); (case k2 => assumption); (case k3 => assumption); (case k4 => assumption); (case k5 => assumption); (case k6 => with_unfolding_all rfl); k_whole)))
local macro_rules | `(tactic| walk_at "assign Tuple") => `(tactic| (refine Hold.out ?_))
local macro_rules | `(tactic| walk_at "call builtin:len") => `(tactic| (k_here; k_dflt (refine' my_len ?N ?l ?e ?b ?_; (case N => k_asm); (case l => first | exact List.Mem.head _ | exact List.mem_cons_of_mem _ (List.mem_cons_of_mem _ (List.mem_cons_of_mem _ (List.mem_cons_of_mem _ (by assumption))))); (case e => with_reducible assumption); (case b => with_reducible assumption); k_whole); intro t' tk'))
local macro_rules | `(tactic| walk_at "eval ListComp") => `(tactic| (refine Hold.out ?_))
local macro_rules | `(tactic| walk_at "call builtin:list.append") => `(tactic| (refine Hold.out ?_))
local macro_rules | `(tactic| walk_at "subscriptTail Name Slice ref ref") => `(tactic| (refine Hold.out ?_))
local macro_rules | `(tactic| walk_at "call ref") => `(tactic| (refine Hold.out ?_))
local macro_rules | `(tactic| walk_at "binaryOp Add ref ref") => `(tactic| (refine Hold.out ?_))
def ToldInv (L me ca pa : Addr) (rest : List (Addr × Obj)) (st : LaidSt) (m' : Str → Option Value) (nw : List (Addr × Obj)) : Prop :=
  ∃ ok op mv n2 rest' ta tv nt vk vp, nw = (L + 1, ok) :: (L + 2, op) :: (me, listOf (List.toArray mv) n2) :: rest' ∧ ok.data = .cell vk ∧ op.data = .cell vp ∧ (∀ q ∈ rest, q ∈ rest') ∧ (∀ q ∈ rest', q.1 ≠ L + 1 ∧ q.1 ≠ L + 2 ∧ q.1 ≠ me) ∧
    (ta, listOf (List.toArray tv) nt) ∈ rest' ∧ DatAll rest' tv (st.T.map cardD) ∧ DatAll rest' mv (st.M.map meetD) ∧ m' (Str.ofString "table") = some (.ref ta) ∧ m' (Str.ofString "meets") = some (.ref me) ∧ m' (Str.ofString "cards") = some (.ref ca) ∧ m' (Str.ofString "passes") = some (.ref pa)
def Big (L me I : Addr) (a : Nat) : Prop := (L + 1 : Nat) < a ∧ (L + 2 : Nat) < a ∧ (me : Nat) < a ∧ (I : Nat) < a
theorem Big.up {L me I : Addr} {a b : Nat} (h : Big L me I a) (hl : a < b) : Big L me I b := ⟨Nat.lt_trans h.1 hl, Nat.lt_trans h.2.1 hl, Nat.lt_trans h.2.2.1 hl, Nat.lt_trans h.2.2.2 hl⟩
theorem Big.ne {L me I : Addr} {a : Nat} (h : Big L me I a) : a ≠ L + 1 ∧ a ≠ L + 2 ∧ a ≠ me := ⟨Nat.ne_of_gt h.1, Nat.ne_of_gt h.2.1, Nat.ne_of_gt h.2.2.1⟩
theorem Big.neI {L me I : Addr} {a : Nat} (h : Big L me I a) : a ≠ I := Nat.ne_of_gt h.2.2.2
theorem told_end {h₀ h' : Heap} {L I me ca pa W S x D : Addr} {it ok op oS oD : Obj} {s₁ : Shared} {m' : Str → Option Value} {rest rest' add : List (Addr × Obj)} {kd pt r : Int} {lf : Bool} {st : LaidSt} {mv zs : List Value} {n0 n2 n3 tk : Nat} {ta tb : Tok} {vk vp : Option Value}
    (dk : ok.data = .cell vk) (dp : op.data = .cell vp) (sub : ∀ q ∈ rest, q ∈ rest') (off : ∀ q ∈ rest', q.1 ≠ L + 1 ∧ q.1 ≠ L + 2 ∧ q.1 ≠ me) (offI : ∀ q ∈ rest', q.1 ≠ I) (x3 : (L + 1 : Nat) ≠ I) (x4 : (L + 2 : Nat) ≠ I) (x5 : (me : Nat) ≠ I)
    (gW : Big L me I W) (gS : Big L me I S) (gx : Big L me I x) (gD : Big L me I D) (gA : ∀ q ∈ add, Big L me I q.1) (hr : r = ((baseOf lf st.T + cntF (passB (kd, lf, pt)) st.R : Nat) : Int))
    (F : Fr h₀ L h' m') (N : News h₀ L h' ((W, listOf (List.toArray zs) n0) :: (add ++ ((S, oS) :: (x, listOf #[.int r ta, .int r tb] n3) :: (D, oD) :: (L + 1, ok) :: (L + 2, op) :: (me, listOf (List.toArray (mv ++ [.ref x])) n2) :: (I, it) :: rest'))))
    (hZ : DatAll (add ++ rest') zs ((tabOf lf st.T (part lf (passB (kd, lf, pt)) st.R)).map cardD)) (hM : DatAll rest' mv (st.M.map meetD))
    (mt : m' (Str.ofString "table") = some (.ref W)) (mm : m' (Str.ofString "meets") = some (.ref me)) (mc : m' (Str.ofString "cards") = some (.ref ca)) (mp : m' (Str.ofString "passes") = some (.ref pa)) :
    TurnEnd h₀ L I it (ToldInv L me ca pa rest (laidStep st (kd, lf, pt))) s₁ .next { s₁ with heap := h', toks := tk } := by
  subst hr
  have s2 : ∀ q ∈ add ++ rest', q ∈ (W, listOf (List.toArray zs) n0) :: (x, listOf #[.int ((baseOf lf st.T + cntF (passB (kd, lf, pt)) st.R : Nat) : Int) ta, .int ((baseOf lf st.T + cntF (passB (kd, lf, pt)) st.R : Nat) : Int) tb] n3) :: (S, oS) :: (D, oD) :: (add ++ rest') := fun q hq => .tail _ (.tail _ (.tail _ (.tail _ hq)))
  have s3 : ∀ q ∈ rest', q ∈ add ++ rest' := fun q hq => List.mem_append_right _ hq
  refine ⟨rfl, h', tk, m', (L + 1, ok) :: (L + 2, op) :: (me, listOf (List.toArray (mv ++ [.ref x])) n2) :: (W, listOf (List.toArray zs) n0) :: (x, listOf #[.int ((baseOf lf st.T + cntF (passB (kd, lf, pt)) st.R : Nat) : Int) ta, .int ((baseOf lf st.T + cntF (passB (kd, lf, pt)) st.R : Nat) : Int) tb] n3) :: (S, oS) :: (D, oD) :: (add ++ rest'), rfl, F, fun q hq => N q ?_, fun q hq => ?_,
    ok, op, mv ++ [.ref x], n2, _, W, zs, n0, vk, vp, rfl, dk, dp, fun q hq => s2 q (s3 q (sub q hq)), fun q hq => ?_, .head _, hZ.mono s2, ?_, mt, mm, mc, mp⟩
  · simp only [List.mem_cons, List.mem_append] at hq ⊢
    rcases hq with h1 | h1 | h1 | h1 | h1 | h1 | h1 | h1 | h1 | h1 <;> simp [h1]
  · simp only [List.mem_cons, List.mem_append] at hq
    rcases hq with rfl | rfl | rfl | rfl | rfl | rfl | rfl | hq | hq
    · exact x3
    · exact x4
    · exact x5
    · exact gW.neI
    · exact gx.neI
    · exact gS.neI
    · exact gD.neI
    · exact (gA q hq).neI
    · exact offI q hq
  · simp only [List.mem_cons, List.mem_append] at hq
    rcases hq with rfl | rfl | rfl | rfl | hq | hq
    · exact gW.ne
    · exact gx.ne
    · exact gS.ne
    · exact gD.ne
    · exact (gA q hq).ne
    · exact off q hq
  · show DatAll _ (mv ++ [.ref x]) ((st.M ++ [baseOf lf st.T + cntF (passB (kd, lf, pt)) st.R]).map meetD)
    rw [List.map_append]
    exact (hM.mono fun q hq => s2 q (s3 q hq)).append (.cons (.list (.tail _ (.head _)) (.cons (.int _ _) (.cons (.int _ _) .nil))) .nil)
section
variable {w : World} {A : Around} {base h₀ : Heap} {outer : List Env} {L : Addr} {s : Shared} {m mg mb : Str → Option Value} {p : Program} {loose : List Str} {mean : ExcName → Option Value}
set_option maxRecDepth 100000 in
set_option maxHeartbeats 2000000 in
theorem told_turn {me ca pa ta I : Addr} {it ok op : Obj} {cv pv mv tv : List Value} {nc np n2 nt : Nat} {cs : List Card} {qs : List Pass} {rest rest' : List (Addr × Obj)} {vk vp : Option Value} {i : Nat} {t : Tok} {s₁ : Shared} {st : LaidSt} {hp0 : Heap} {tk0 : Nat}
   (B : Below A base outer h₀) (F : Fr h₀ L hp0 m) (X₀ : (hd.heap_39 w.params).In h₀) (N : News h₀ L hp0 ((L + 1, ok) :: (L + 2, op) :: (me, listOf (List.toArray mv) n2) :: (I, it) :: rest')) (hTop : Top p loose mean mg mb h₀)
   (hroom : A.depth + 60 < recursionLimit) (hu : A.units + 100 < cLine) (hh : A.handled = none) (hca : (ca, listOf cv.toArray nc) ∈ rest) (hC : DatAll rest cv (cs.map cardD)) (hpa : (pa, listOf pv.toArray np) ∈ rest) (hP : DatAll rest pv (qs.map passD)) (hq : ∀ q ∈ qs, 1 ≤ q.2.2 ∧ q.2.2 ≤ 256) (hsz : (qs.length + 1) * (cs.length + 1) < 5000) (h2 : 2 ≤ cs.length) (h64 : cs.length < 64)
   (hpl : cs.Pairwise fun a b => a.2 < b.2) (hok : ∀ q ∈ qs, Ok q) (hi : i < qs.length) (hst : (qs.take i).foldl laidStep ⟨[], [], cs⟩ = st)
   (dk : ok.data = .cell vk) (dp : op.data = .cell vp) (sub : ∀ q ∈ rest, q ∈ rest') (off : ∀ q ∈ rest', q.1 ≠ L + 1 ∧ q.1 ≠ L + 2 ∧ q.1 ≠ me) (offI : ∀ q ∈ rest', q.1 ≠ I) (x1 : (L + 1 : Nat) ≠ me) (x2 : (L + 2 : Nat) ≠ me) (x3 : (L + 1 : Nat) ≠ I) (x4 : (L + 2 : Nat) ≠ I) (x5 : (me : Nat) ≠ I)
   (hta : (ta, listOf (List.toArray tv) nt) ∈ rest') (hT : DatAll rest' tv (st.T.map cardD)) (hM : DatAll rest' mv (st.M.map meetD)) (mt : m (Str.ofString "table") = some (.ref ta)) (mm : m (Str.ofString "meets") = some (.ref me)) (mc : m (Str.ofString "cards") = some (.ref ca)) (mp : m (Str.ofString "passes") = some (.ref pa)) (mk : m (Str.ofString "k") = some (.int (i : Int) t)) :
   wpAny (model PySem.Challenge.rw_pe0101_01.row.prog w) (A.deeper (toldEnv L)) (execs (fBody toldFor) (toldEnv L)) (TurnEnd h₀ L I it (ToldInv L me ca pa rest (laidStep st qs[i])) s₁) (fun _ _ => False) { s₁ with heap := hp0, toks := tk0 } := by
  revert X₀
  k_fill
  intro X₀
  have e1 : scopeOf (topStmt 16) = Scope.mk _ _ _ _ _ := rfl
  have e2 : fBody toldFor = [_, _, _, _, _, _] := rfl
  unfold toldEnv
  rw [e1, e2]
  have hlt := hT.length
  have hlm := hM.length
  have hlc := hC.length
  have hlp := hP.length
  rw [List.length_map] at hlt hlm hlc hlp
  obtain ⟨v', hv', hd'⟩ := dat_at hP (List.getElem?_eq_getElem hi)
  obtain ⟨qa, qn, tx, ty, rfl, hqm⟩ := pass_inv hd'
  have hqb := hq _ (List.getElem_mem hi)
  have hv2 : pv[((i : Nat) : Int).toNat]? = some (Value.ref qa) := by simpa using hv'
  have z0 : (0 : Int) ≤ ((i : Nat) : Int) := by omega
  have z1 : ((i : Nat) : Int) < 2 ^ 63 := by
    have : qs.length * 1 ≤ (qs.length + 1) * (cs.length + 1) := Nat.mul_le_mul (by omega) (by omega)
    omega
  have sub4 : ∀ q ∈ rest, q ∈ (L + 1, ok) :: (L + 2, op) :: (me, listOf (List.toArray mv) n2) :: (I, it) :: rest' := fun q hq => .tail _ (.tail _ (.tail _ (.tail _ (sub q hq))))
  have hpa4 := sub4 _ hpa
  refine wpAny_stop ?_
  k_steps
  refine my_item N hpa4 z0 z1 hv2 ?_ (by with_unfolding_all rfl)
  have hl2 : hp0.IsList qa #[.int qs[i].1 tx, .bool qs[i].2.1, .int qs[i].2.2 ty] := ⟨_, N.get (sub4 _ hqm), rfl, _, rfl⟩
  generalize hqq : qs[i] = q at *
  obtain ⟨kd, lf, pt⟩ := q
  dsimp only at hl2 hqb ⊢
  refine kun_list F N hl2 hh rfl rfl ?_
  intro h1 F1 N1
  clear F N hl2
  have o1 : ∀ q ∈ (L + 2, op) :: (me, listOf (List.toArray mv) n2) :: (I, it) :: rest', q.1 ≠ L + 1 := fun q hq => by
    simp only [List.mem_cons] at hq
    rcases hq with rfl | rfl | rfl | hq
    · exact Nat.succ_ne_self _
    · exact x1.symm
    · exact x3.symm
    · exact (off q hq).1
  have o2 : ∀ q ∈ (me, listOf (List.toArray mv) n2) :: (I, it) :: rest', q.1 ≠ L + 2 := fun q hq => by
    simp only [List.mem_cons] at hq
    rcases hq with rfl | rfl | hq
    · exact x2.symm
    · exact x4.symm
    · exact (off q hq).2.1
  have x6 : L + 1 ≠ L + 2 := Nat.ne_of_lt (Nat.lt_succ_self _)
  have zT : ((st.T.length : Nat) : Int) < 2 ^ 62 := by
    have := (laid_sizes (qs.take i) ⟨[], [], cs⟩).1
    rw [hst] at this
    simp only [List.length_take, List.length_nil] at this
    have h1 : min i qs.length * cs.length ≤ (qs.length + 1) * (cs.length + 1) := Nat.mul_le_mul (by omega) (by omega)
    omega
  have zN : st.T.length < 5000 := by
    have := (laid_sizes (qs.take i) ⟨[], [], cs⟩).1
    rw [hst] at this
    simp only [List.length_take, List.length_nil] at this
    have h1 : min i qs.length * cs.length ≤ (qs.length + 1) * (cs.length + 1) := Nat.mul_le_mul (by omega) (by omega)
    omega
  have zC : ((cntF (fun c => yesB kd pt c.1) cs : Nat) : Int) < 2 ^ 62 := by
    have := cnt_le (fun c => yesB kd pt c.1) cs
    omega
  have sub1 : ∀ {a b c d : Addr × Obj}, ∀ q ∈ rest, q ∈ a :: b :: c :: d :: rest' := fun q hq => .tail _ (.tail _ (.tail _ (.tail _ (sub q hq))))
  have hsc : cs.length < 5000 := by omega
  have offme : ∀ q ∈ (I, it) :: rest', q.1 ≠ me := fun q hq => by
    rcases List.mem_cons.mp hq with rfl | hq
    · exact x5.symm
    · exact (off q hq).2.2
  have hql : qs.length < 5000 := by
    have : qs.length * 1 ≤ (qs.length + 1) * (cs.length + 1) := Nat.mul_le_mul (by omega) (by omega)
    omega
  have hkd : ∀ (x y : Nat), x < cs.length → y < cs.length → x ≠ y → keyOf (qs.take (i + 1)) (cs.getD x (0, 0)) ≠ keyOf (qs.take (i + 1)) (cs.getD y (0, 0)) := fun x y hx hy hxy => by
    have e1 : cs.getD x (0, 0) = cs[x] := by simp [hx]
    have e2 : cs.getD y (0, 0) = cs[y] := by simp [hy]
    rw [e1, e2]
    refine key_ne ?_
    rcases Nat.lt_or_gt_of_ne hxy with z | z
    · exact Int.ne_of_lt (List.pairwise_iff_getElem.mp hpl x y hx hy z)
    · exact Ne.symm (Int.ne_of_lt (List.pairwise_iff_getElem.mp hpl y x hy hx z))
  have hqi : qs[i]? = some (kd, lf, pt) := by rw [List.getElem?_eq_getElem hi, hqq]
  have hMi : st.M.length = i := by
    have := (laid_sizes (qs.take i) ⟨[], [], cs⟩).2.2
    rw [hst] at this
    simp only [List.length_take, List.length_nil] at this
    omega
  k_steps
  · show wpAny _ _ _ _ _ _
    rename Fr _ _ _ _ => Fx
    rename News _ _ _ _ => Nx
    refine told_count (cs := cs) B Fx X₀ Nx hTop (by omega) hh (sub1 _ hca) (hC.mono sub1) (.head _) (by assumption) (.tail _ (.head _)) (by assumption) hqb hsc mc ?_
    intro D n av h3 tk3 F3 N3 l3 hav
    clear Fx Nx
    rename (lf = _) => hlf
    subst hlf
    k_steps
    rename_i x hx Fy Ny l1
    show wpAny _ _ _ _ _ _
    have gD : Big L me I D := ⟨l3 _ (.head _), l3 _ (.tail _ (.head _)), l3 _ (.tail _ (.tail _ (.head _))), l3 _ (.tail _ (.tail _ (.tail _ (.head _))))⟩
    have gx : Big L me I x := gD.up l1.1
    refine append_K Fy Ny (.tail gx.ne.2.2 (.tail gD.ne.2.2 (.tail x1 (.tail x2 (.head offme))))) ?_ (by rw [List.size_toArray, sizeLine_eq]; omega)
    intro hy Fz Nz
    rw [List.push_toArray] at Nz
    clear Fy Ny
    k_steps
    show wpAny _ _ _ _ _ _
    rename Fr _ _ _ _ => Fx
    rename News _ _ _ _ => Nx
    refine kmk_slice_lit (its := pv.toArray) (zs := pv.take (i + 1)) Fx Nx ⟨_, Nx.get (.tail _ (.tail _ (sub1 _ hpa))), rfl, np, rfl⟩ IsPart.none (IsPart.int _ _) ((pick_upto pv (by omega)).trans (by congr 1)) ?_ (by with_unfolding_all rfl) (by kmk_pure) (by rw [List.size_toArray, sizeLine_eq]; omega)
    intro S hS FS NS lS
    clear Fx Nx
    k_steps
    show wpAny _ _ _ _ _ _
    have sub7 : ∀ {a b c d e f g : Addr × Obj}, ∀ q ∈ rest, q ∈ a :: b :: c :: d :: e :: f :: g :: rest' := fun q hq => .tail _ (.tail _ (.tail _ (sub1 q hq)))
    refine c_row (qs := qs.take (i + 1)) (cs := cs) B FS X₀ NS hTop rfl rfl (by omega) (by omega) hh (sub7 _ hca) (hC.mono sub7) (.head _) (by rw [List.map_take]; exact DatAll.take (hP.mono sub7) _) (fun q h => hq q (List.mem_of_mem_take h)) (by rw [List.length_take]; omega) h2 h64 hkd ?_
    intro hr tkr xr nr xv add cs' Fr' Nr lr hxr hxd hperm hpw
    have hcs := row_is hpl (fun q h => hok q (List.mem_of_mem_take h)) hperm hpw
    rw [laid_snoc _ _ hqi, hst] at hcs
    clear FS NS
    k_steps
    show wpAny _ _ _ _ _ _
    rename Fr _ _ _ _ => Fx
    rename News _ _ _ _ => Nx
    have hlx : xv.length = cs.length := by
      have := hxd.length
      rw [List.length_map, hperm.length_eq] at this
      exact this
    refine kmk_add_lit (its := tv.toArray) (its2 := xv.toArray) (zs := tv ++ xv) Fx Nx ⟨_, Nx.get (List.mem_append_right _ (.tail _ (.tail _ (.tail _ (.tail _ (.tail _ (.tail _ (.tail _ hta)))))))), rfl, nt, rfl⟩ ⟨_, Nx.get (List.mem_append_left _ hxr), rfl, nr, rfl⟩ (by simp) ?_ (by rw [sizeLine_eq]; simp; omega)
    intro W hW FW NW lW
    clear Fx Nx
    k_steps
    rename Fr _ _ _ _ => Fv
    rename News _ _ _ _ => Nv
    have gS : Big L me I S := gx.up (lS _ (.head _))
    have gA : ∀ q ∈ add, Big L me I q.1 := fun q hq => gS.up (lr q hq _ (.head _))
    have gW : Big L me I W := gS.up (lW _ (List.mem_append_right _ (.head _)))
    refine told_end (by assumption) (by assumption) sub off offI x3 x4 x5 gW gS gx gD gA ?_ Fv Nv ?_ hM rfl mm mc mp
    · have e := cnt_is hpl (fun q h => hok q (List.mem_of_mem_take h)) (qs := qs.take i) (q := (kd, true, pt)) (hqq ▸ hok _ (List.getElem_mem hi))
      rw [hst] at e
      rw [e]
      simp [baseOf]
    · have e : tabOf true st.T (part true (passB (kd, true, pt)) st.R) = st.T ++ cs' := by rw [hcs]; rfl
      rw [e, List.map_append]
      exact (hT.mono fun q hq => List.mem_append_right _ hq).append (hxd.mono fun q hq => List.mem_append_left _ hq)
  · show wpAny _ _ _ _ _ _
    rename Fr _ _ _ _ => Fx
    rename News _ _ _ _ => Nx
    refine told_count (cs := cs) B Fx X₀ Nx hTop (by omega) hh (sub1 _ hca) (hC.mono sub1) (.head _) (by assumption) (.tail _ (.head _)) (by assumption) hqb hsc mc ?_
    intro D n av h3 tk3 F3 N3 l3 hav
    clear Fx Nx
    rename (lf = _) => hlf
    subst hlf
    k_steps
    rename_i x hx Fy Ny l1
    show wpAny _ _ _ _ _ _
    have gD : Big L me I D := ⟨l3 _ (.head _), l3 _ (.tail _ (.head _)), l3 _ (.tail _ (.tail _ (.head _))), l3 _ (.tail _ (.tail _ (.tail _ (.head _))))⟩
    have gx : Big L me I x := gD.up l1.1
    refine append_K Fy Ny (.tail gx.ne.2.2 (.tail gD.ne.2.2 (.tail x1 (.tail x2 (.head offme))))) ?_ (by rw [List.size_toArray, sizeLine_eq]; omega)
    intro hy Fz Nz
    rw [List.push_toArray] at Nz
    clear Fy Ny
    k_steps
    show wpAny _ _ _ _ _ _
    rename Fr _ _ _ _ => Fx
    rename News _ _ _ _ => Nx
    refine kmk_slice_lit (its := pv.toArray) (zs := pv.take (i + 1)) Fx Nx ⟨_, Nx.get (.tail _ (.tail _ (sub1 _ hpa))), rfl, np, rfl⟩ IsPart.none (IsPart.int _ _) ((pick_upto pv (by omega)).trans (by congr 1)) ?_ (by with_unfolding_all rfl) (by kmk_pure) (by rw [List.size_toArray, sizeLine_eq]; omega)
    intro S hS FS NS lS
    clear Fx Nx
    k_steps
    show wpAny _ _ _ _ _ _
    have sub7 : ∀ {a b c d e f g : Addr × Obj}, ∀ q ∈ rest, q ∈ a :: b :: c :: d :: e :: f :: g :: rest' := fun q hq => .tail _ (.tail _ (.tail _ (sub1 q hq)))
    refine c_row (qs := qs.take (i + 1)) (cs := cs) B FS X₀ NS hTop rfl rfl (by omega) (by omega) hh (sub7 _ hca) (hC.mono sub7) (.head _) (by rw [List.map_take]; exact DatAll.take (hP.mono sub7) _) (fun q h => hq q (List.mem_of_mem_take h)) (by rw [List.length_take]; omega) h2 h64 hkd ?_
    intro hr tkr xr nr xv add cs' Fr' Nr lr hxr hxd hperm hpw
    have hcs := row_is hpl (fun q h => hok q (List.mem_of_mem_take h)) hperm hpw
    rw [laid_snoc _ _ hqi, hst] at hcs
    clear FS NS
    k_steps
    show wpAny _ _ _ _ _ _
    rename Fr _ _ _ _ => Fx
    rename News _ _ _ _ => Nx
    have hlx : xv.length = cs.length := by
      have := hxd.length
      rw [List.length_map, hperm.length_eq] at this
      exact this
    refine kmk_add_lit (its := xv.toArray) (its2 := tv.toArray) (zs := xv ++ tv) Fx Nx ⟨_, Nx.get (List.mem_append_left _ hxr), rfl, nr, rfl⟩ ⟨_, Nx.get (List.mem_append_right _ (.tail _ (.tail _ (.tail _ (.tail _ (.tail _ (.tail _ (.tail _ hta)))))))), rfl, nt, rfl⟩ (by simp) ?_ (by rw [sizeLine_eq]; simp; omega)
    intro W hW FW NW lW
    clear Fx Nx
    k_steps
    rename Fr _ _ _ _ => Fv
    rename News _ _ _ _ => Nv
    have gS : Big L me I S := gx.up (lS _ (.head _))
    have gA : ∀ q ∈ add, Big L me I q.1 := fun q hq => gS.up (lr q hq _ (.head _))
    have gW : Big L me I W := gS.up (lW _ (List.mem_append_right _ (.head _)))
    refine told_end (by assumption) (by assumption) sub off offI x3 x4 x5 gW gS gx gD gA ?_ Fv Nv ?_ hM rfl mm mc mp
    · have e := cnt_is hpl (fun q h => hok q (List.mem_of_mem_take h)) (qs := qs.take i) (q := (kd, false, pt)) (hqq ▸ hok _ (List.getElem_mem hi))
      rw [hst] at e
      rw [e]
      simp [baseOf]
    · have e : tabOf false st.T (part false (passB (kd, false, pt)) st.R) = cs' ++ st.T := by rw [hcs]; rfl
      rw [e, List.map_append]
      exact (hxd.mono fun q hq => List.mem_append_left _ hq).append (hT.mono fun q hq => List.mem_append_right _ hq)
end
end Mine
end PartT3

section PartT4
open PySem PySem.W PyProof.Rows
namespace Mine
local macro_rules | `(tactic| k_mem) => `(tactic| with_reducible assumption)
local macro_rules | `(tactic| walk_at "eval Name") => `(tactic| (k_here; k_dflt (refine' ldE ?F ?v ?_ ?c ?k ?l ?d; (case F => k_asm); (case c => exact rfl); (case k => exact rfl); (case l => exact rfl); (case d => decide); (case v => first | exact rfl | assumption); k_whole)))
local macro_rules | `(tactic| walk_at "call builtin:len") => `(tactic| (k_here; k_dflt (refine' my_len ?N ?l ?e ?b ?_; (case N => k_asm); (case l => exact List.mem_cons_of_mem _ (List.mem_cons_of_mem _ (List.mem_cons_of_mem _ (List.mem_cons_of_mem _ (by assumption))))); (case e => with_reducible assumption); (case b => with_reducible assumption); k_whole); intro t' tk'))
local macro_rules | `(tactic| walk_at "pyIter ref") => `(tactic| (refine Hold.out ?_))
local macro_rules | `(tactic| walk_at "exec For Name Call cons nil") => `(tactic| (refine Hold.out ?_))
theorem told_init {g h : Heap} {L ta me ca pa : Addr} {m : Str → Option Value} {news : List (Addr × Obj)} {ok op : Obj} {vk vp : Option Value} {n1 n2 : Nat} {cs : List Card} (_F : Fr g L h m) (N : News g L h ((me, listOf #[] n1) :: (ta, listOf #[] n2) :: (L + 2, op) :: (L + 1, ok) :: news))
    (l3 : ta < me ∧ L + 2 < me ∧ L + 1 < me ∧ AllLt me news) (l2 : L + 2 < ta ∧ L + 1 < ta ∧ AllLt ta news) (l1 : ∀ q ∈ news, q.1 < L) (dk : ok.data = .cell vk) (dp : op.data = .cell vp)
    (mt : m (Str.ofString "table") = some (.ref ta)) (mm : m (Str.ofString "meets") = some (.ref me)) (mc : m (Str.ofString "cards") = some (.ref ca)) (mp : m (Str.ofString "passes") = some (.ref pa)) :
    ∃ nw₀, News g L h nw₀ ∧ ToldInv L me ca pa news ⟨[], [], cs⟩ m nw₀ ∧ (L + 1 : Nat) ≠ me ∧ (L + 2 : Nat) ≠ me := by
  refine ⟨(L + 1, ok) :: (L + 2, op) :: (me, listOf (List.toArray []) n1) :: (ta, listOf (List.toArray []) n2) :: news, fun q hq => N q ?_, ⟨ok, op, [], n1, _, ta, [], n2, vk, vp, rfl, dk, dp, fun q hq => .tail _ hq, fun q hq => ?_, .head _, .nil, .nil, mt, mm, mc, mp⟩, Nat.ne_of_lt l3.2.2.1, Nat.ne_of_lt l3.2.1⟩
  · simp only [List.mem_cons] at hq ⊢
    rcases hq with h1 | h1 | h1 | h1 | h1 <;> simp [h1]
  · rcases List.mem_cons.mp hq with rfl | hq
    · exact ⟨Nat.ne_of_gt l2.2.1, Nat.ne_of_gt l2.1, Nat.ne_of_lt l3.1⟩
    · have := l1 q hq
      exact ⟨Nat.ne_of_lt (Nat.lt_succ_of_lt this), Nat.ne_of_lt (Nat.lt_succ_of_lt (Nat.lt_succ_of_lt this)), Nat.ne_of_lt (Nat.lt_trans this (Nat.lt_of_succ_lt l3.2.2.1))⟩
theorem told_fin {h₀ h' : Heap} {L x ta me a b : Addr} {m : Str → Option Value} {news rest' : List (Addr × Obj)} {oa ob : Obj} {tv mv : List Value} {n1 n2 n3 : Nat} {st : LaidSt} {R : Prop}
    (h : ∀ news', Fr h₀ L h' m → News h₀ L h' news' → (∀ q ∈ news, q ∈ news') → DatIn news' (.ref x) (resD st.T st.M) → R)
    (F : Fr h₀ L h' m) (N : News h₀ L h' ((x, listOf #[.ref ta, .ref me] n3) :: (a, oa) :: (b, ob) :: (me, listOf (List.toArray mv) n2) :: rest')) (sub : ∀ q ∈ news, q ∈ rest') (hta : (ta, listOf (List.toArray tv) n1) ∈ rest') (hT : DatAll rest' tv (st.T.map cardD)) (hM : DatAll rest' mv (st.M.map meetD)) : R := by
  have s4 : ∀ q ∈ rest', q ∈ (x, listOf #[.ref ta, .ref me] n3) :: (a, oa) :: (b, ob) :: (me, listOf (List.toArray mv) n2) :: rest' := fun q hq => .tail _ (.tail _ (.tail _ (.tail _ hq)))
  exact h _ F N (fun q hq => s4 q (sub q hq)) (.list (.head _) (.cons (.list (s4 _ hta) (hT.mono s4)) (.cons (.list (.tail _ (.tail _ (.tail _ (.head _)))) (hM.mono s4)) .nil)))
section
variable {w : World} {A : Around} {base h₀ : Heap} {outer : List Env} {L : Addr} {s : Shared} {m mg mb : Str → Option Value} {p : Program} {loose : List Str} {mean : ExcName → Option Value} {Q : Flow → Shared → Prop}
set_option maxRecDepth 100000 in
set_option maxHeartbeats 1000000 in
theorem told_loop {me ca pa r : Addr} {cv pv : List Value} {nc np : Nat} {cs : List Card} {qs : List Pass} {rest nw₀ : List (Addr × Obj)} {t₀ u₀ v₀ : Tok}
   (B : Below A base outer h₀) (F : Fr h₀ L s.heap m) (X₀ : (hd.heap_39 w.params).In h₀) (N : News h₀ L s.heap nw₀) (hTop : Top p loose mean mg mb h₀) (hr : IsRange s.heap r 0 (qs.length : Int) 1 t₀ u₀ v₀)
   (hroom : A.depth + 60 < recursionLimit) (hu : A.units + 100 < cLine) (hh : A.handled = none) (hca : (ca, listOf cv.toArray nc) ∈ rest) (hC : DatAll rest cv (cs.map cardD)) (hpa : (pa, listOf pv.toArray np) ∈ rest) (hP : DatAll rest pv (qs.map passD)) (hq : ∀ q ∈ qs, 1 ≤ q.2.2 ∧ q.2.2 ≤ 256) (hsz : (qs.length + 1) * (cs.length + 1) < 5000) (h2 : 2 ≤ cs.length) (h64 : cs.length < 64)
   (hpl : cs.Pairwise fun a b => a.2 < b.2) (hok : ∀ q ∈ qs, Ok q) (hql : qs.length < 5000) (x1 : (L + 1 : Nat) ≠ me) (x2 : (L + 2 : Nat) ≠ me) (h0 : ToldInv L me ca pa rest ⟨[], [], cs⟩ m nw₀)
   (hQ : ∀ h' tk m' nw, Fr h₀ L h' m' → News h₀ L h' nw → ToldInv L me ca pa rest (qs.foldl laidStep ⟨[], [], cs⟩) m' nw → Q .next { s with heap := h', toks := tk }) :
   wpAny (model PySem.Challenge.rw_pe0101_01.row.prog w) (A.deeper (toldEnv L)) (pyIter (.ref r)) (fun it s₂ => codeAny (model PySem.Challenge.rw_pe0101_01.row.prog w) (A.deeper (toldEnv L)) (.forLoop (match toldFor with | .For t _ _ _ _ => t | _ => default) it (fBody toldFor) [] (toldEnv L)) (fun r s' => match r with | .ok f => Q f s' | .error e => cameBackBy (model PySem.Challenge.rw_pe0101_01.row.prog w) (A.deeper (toldEnv L)) (toldEnv L) (fun _ _ => False) e s') s₂) (fun _ _ => False) s := by
  have e2 : toldFor = Stmt.For (PySem.Expr.Name _ _) _ (fBody toldFor) [] _ := rfl
  rw [e2]
  dsimp only
  show wpAny _ _ _ (fun it s₂ => codeAny _ _ (.forLoop _ it (fBody toldFor) [] (toldEnv L)) _ s₂) _ _
  refine for_range (fun i m' nw => ToldInv L me ca pa rest ((qs.take i).foldl laidStep ⟨[], [], cs⟩) m' nw) hh F N hr (by omega) h0 ?_ ?_
  · rintro i t I it m1 nw h5 tk5 hi ⟨ok, op, mv, n2, rest', ta, tv, nt, vk, vp, rfl, dk, dp, sub, off, hta, hT, hM, mt, mm, mc, mp⟩ hoffI hltI F5 N5
    have N6 : News h₀ L h5 ((L + 1, ok) :: (L + 2, op) :: (me, listOf (List.toArray mv) n2) :: (I, it) :: rest') := fun q hq => N5 q (by
      simp only [List.mem_cons] at hq ⊢
      rcases hq with h1 | h1 | h1 | h1 | h1 <;> simp [h1])
    rw [laid_snoc _ _ (List.getElem?_eq_getElem hi)]
    refine wpAny_assign_Name ?_
    refine stE F5 N6 ?_ rfl rfl rfl
    intro h7 F7 N7
    exact told_turn B F7 X₀ N7 hTop hroom hu hh hca hC hpa hP hq hsz h2 h64 hpl hok hi rfl dk dp sub off (fun q hq => hoffI q (.tail _ (.tail _ (.tail _ hq)))) x1 x2 (hoffI _ (.head _)) (hoffI _ (.tail _ (.head _))) (hoffI _ (.tail _ (.tail _ (.head _)))) hta hT hM mt mm mc mp rfl
  · intro m' nw h5 tk5 hJ F5 N5
    rw [List.take_length] at hJ
    exact hQ h5 tk5 m' nw F5 N5 hJ
end
section
variable {w : World} {A : Around} {base h₀ : Heap} {outer : List Env} {env : Env} {L : Addr} {s : Shared} {m mg mb : Str → Option Value} {news : List (Addr × Obj)} {p : Program} {loose : List Str} {mean : ExcName → Option Value} {Q : Value → Shared → Prop} {E : Value → Shared → Prop}
set_option maxRecDepth 100000 in
set_option maxHeartbeats 1000000 in
theorem c_told {ca pa : Addr} {cv pv : List Value} {nc np : Nat} {cs : List Card} {qs : List Pass} (B : Below A base outer h₀) (F : Fr h₀ L s.heap m) (X₀ : (hd.heap_39 w.params).In h₀) (N : News h₀ L s.heap news) (T : Top p loose mean mg mb h₀) (hf : env.frame = some L) (hke : env.scope.kind = .function)
   (hroom : A.depth + 70 < recursionLimit) (hu : A.units + 110 < cLine) (hh : A.handled = none) (hca : (ca, listOf cv.toArray nc) ∈ news) (hC : DatAll news cv (cs.map cardD)) (hpa : (pa, listOf pv.toArray np) ∈ news) (hP : DatAll news pv (qs.map passD))
   (hq : ∀ q ∈ qs, 1 ≤ q.2.2 ∧ q.2.2 ≤ 256) (hsz : (qs.length + 1) * (cs.length + 1) < 5000) (h2 : 2 ≤ cs.length) (h64 : cs.length < 64) (hpl : cs.Pairwise fun a b => a.2 < b.2) (hok : ∀ q ∈ qs, Ok q)
   (h : ∀ h' tk x news', Fr h₀ L h' m → News h₀ L h' news' → (∀ q ∈ news, q ∈ news') → DatIn news' (.ref x) (resD (qs.foldl laidStep ⟨[], [], cs⟩).T (qs.foldl laidStep ⟨[], [], cs⟩).M) → Q (.ref x) { s with heap := h', toks := tk }) :
   wpAny (model PySem.Challenge.rw_pe0101_01.row.prog w) (A.deeper env) (call (.ref 102) [.ref ca, .ref pa] []) Q E s := by
  revert X₀
  k_fill
  intro X₀
  have hlp := hP.length
  rw [List.length_map] at hlp
  have hql : qs.length < 5000 := by
    have : qs.length * 1 ≤ (qs.length + 1) * (cs.length + 1) := Nat.mul_le_mul (by omega) (by omega)
    omega
  have zq : ((qs.length : Nat) : Int) < 2 ^ 62 := by omega
  refine wpAny_call ?_
  refine' code_defC B F X₀ N T (Around.frames_deeper B.stack) hf hke ?k6 ?k7 (by show A.depth + 1 < _; omega) ?k9 ?kB ?kD ?_ ?c2 ?c3 ?c4
  (case k6 => k_is); (case k7 => k_is); (case k9 => exact BindsTo.of_eq rfl); (case kB => exact rfl); (case kD => decide +kernel); (case c2 => exact rfl); (case c3 => exact rfl); (case c4 => exact rfl)
  intro g' L' h' tk' cells' FG' F' N' Y' B' X' T' l1
  obtain ⟨op, ok, hE', dp, dk⟩ := CellsAre.two Y'
  subst hE'
  clear Y'
  (try simp only [List.cons_append, List.nil_append] at N'); (try dsimp only); (try k_lift B')
  refine wpAny_mono (E := fun _ _ => False) ?_ (fun _ _ h => h) (fun _ _ h => h.elim)
  k_steps
  rename News _ _ _ _ => Nx
  rename (_ ∧ _ ∧ _ ∧ AllLt _ _) => la
  rename (_ ∧ _ ∧ AllLt _ _) => lb
  show wpAny _ _ _ _ _ _
  refine wpAny_For ?_
  k_steps
  rename IsRange _ _ _ _ _ _ _ _ => hR
  rename Fr _ _ _ _ => FR
  rename News _ _ _ _ => NR
  obtain ⟨nw₀, N0, J0, y1, y2⟩ := told_init (cs := cs) (ca := ca) (pa := pa) FR NR la lb l1 dk dp rfl rfl rfl rfl
  show wpAny _ _ _ _ _ _
  refine told_loop (rest := news) (qs := qs) (cs := cs) B' FR X' N0 T' hR (by simp only [depth_deeper]; omega) (by simp only [units_deeper]; omega) hh hca hC hpa hP hq hsz h2 h64 hpl hok hql y1 y2 J0 ?_
  · intro h5 tk5 m5 nw5 F5 N5 J5
    clear FR NR N0 J0
    obtain ⟨ok', op', mv, n2, rest', ta', tv, nt, vk, vp, rfl, dk', dp', sub, off, hta, hT, hM, mt, mm, mc, mp⟩ := J5
    show wpAny _ _ _ _ _ _
    k_steps
    exact told_fin (h _ _ _) (by assumption) (by assumption) sub hta hT hM
end
end Mine
end PartT4

section PartM1
open PySem PySem.W PyProof.Rows
namespace Mine
section
variable {prog : Program} {w : World} {A : Around} {s : Shared} {env : Env} {h₀ : Heap} {L : Addr} {E : Value → Shared → Prop} {elt target iter : PySem.Expr} {ifs : List PySem.Expr} {scope : Scope} {cl : List (Str × Addr)} {pos px : Pos} {x : Str} {RR : Value → Addr → Result → Shared → Prop}
theorem comp_list_any {l : Addr} {vs : List Value} {m : Str → Option Value} {nw₀ : List (Addr × Obj)} (J : Nat → List Value → List (Addr × Obj) → Prop) (hLe : env.locals = L)
    (hcells : ∀ y ∈ scope.names, y.2 ≠ .cell) (hkind : scope.kind = .function) (hh : A.handled = none) (F : Fr h₀ L s.heap m) (N : News h₀ L s.heap nw₀) (hJ : J 0 [] nw₀) (hmem : ∀ i av nw, J i av nw → ∃ n, (l, listOf vs.toArray n) ∈ nw) (hsz : vs.length < 10000) (hlen : ∀ i av nw, J i av nw → av.length ≤ i)
    (hgo : ∀ (I : Addr) (i : Nat) (v : Value) (s : Shared) (Q : Unit → Shared → Prop) (E : Value → Shared → Prop), v ∈ vs → s.heap.IsListIter I l i → Q () s → wpAny (model prog w) A (letOwnedTupleGo target (.ref I) v) Q E s)
    (turn : ∀ i v I it C D oL av n mc nw h tk, vs[i]? = some v → J i av nw → (∀ q ∈ nw₀, q.1 < I ∧ q.1 < C ∧ q.1 < D) → (L < C ∧ L < I ∧ L < D) → (∀ q ∈ nw, q.1 ≠ I ∧ q.1 ≠ C ∧ q.1 ≠ D ∧ q.1 ≠ L) → (∀ h' : Heap, h'.get? L = some oL → h'.Ns L m) → Fr h₀ C h mc → News h₀ C h ([(L, oL), (D, listOf (List.toArray av) n), (I, it)] ++ nw) →
      wpAny (model prog w) A (assign target (compEnvC scope cl C env) v) (fun _ s₂ =>
        wpAny (model prog w) A (forIn ifs true fun c r => if r = true then do let ok ← isTrue c (compEnvC scope cl C env) (eval c (compEnvC scope cl C env)); pure (ForInStep.yield ok) else pure (ForInStep.yield r)) (fun ok s₃ =>
          if ok = true then wpAny (model prog w) A (eval elt (compEnvC scope cl C env)) (fun x s₄ => CompEnd h₀ C L m [(D, listOf (List.toArray av) n), (I, it)] (fun a => a ≠ I ∧ a ≠ C ∧ a ≠ D ∧ a ≠ L) (J (i + 1) (av ++ [x])) { s with heap := h, toks := tk } s₄) (fun _ _ => False) s₃
          else CompEnd h₀ C L m [(D, listOf (List.toArray av) n), (I, it)] (fun a => a ≠ I ∧ a ≠ C ∧ a ≠ D ∧ a ≠ L) (J (i + 1) av) { s with heap := h, toks := tk } s₃) (fun _ _ => False) s₂) (fun _ _ => False) { s with heap := h, toks := tk })
    (done : ∀ D C n av nw mc oL h tk, J vs.length av nw → (∀ q ∈ nw₀, q.1 < D) → (L < D ∧ L < C ∧ D ≠ C) → (∀ q ∈ nw, q.1 ≠ C ∧ q.1 ≠ D ∧ q.1 ≠ L) → (∀ h' : Heap, h'.get? L = some oL → h'.Ns L m) → Fr h₀ C h mc → News h₀ C h ((L, oL) :: (D, listOf (List.toArray av) n) :: nw) → RR (.ref D) C (.ok .next) { s with heap := h, toks := tk }) :
    wpAny (model prog w) A (pyIter (.ref l)) (fun it s₂ => wpAny (model prog w) A (newList []) (fun acc s₃ => wpAny (model prog w) A (newFunctionEnv scope env.globals cl [] env.qual none .none (some env)) (fun cenv s₄ =>
      codeAny (model prog w) A (.compStart (.ListComp elt [⟨target, iter, ifs, 0⟩] scope pos) 0 it acc { cenv with scope := relabel scope env }) (RR acc cenv.locals) s₄) E s₃) E s₂) E s := by
  subst hLe
  obtain ⟨n₀, hm₀⟩ := hmem _ _ _ hJ
  have hl : s.heap.IsList l vs.toArray := ⟨_, N.get hm₀, rfl, n₀, rfl⟩
  refine wpAny_pyIter_list hl ?_
  refine wpAny_newObj_type (wpAny_newFunctionEnv hcells (by intro y hy; simp at hy) (fun h₁ hns₁ hsb₁ => ?_) hkind)
  dsimp only at hns₁ hsb₁ ⊢
  have hH2 : ((s.heap.push { cls := .type "list_iterator", data := .fields #[.ref l, .int 0 0] }).push { cls := .type "list", dict := none, data := .seq ([] : List Value).toArray }).objs.size = s.heap.objs.size + 2 := by rw [Heap.size_push, Heap.size_push]
  have hDs : (s.heap.push { cls := .type "list_iterator", data := .fields #[.ref l, .int 0 0] }).objs.size = s.heap.objs.size + 1 := by rw [Heap.size_push]
  have o1 := Heap.get?_push_size (h := s.heap) (o := { cls := .type "list_iterator", data := .fields #[.ref l, .int 0 0] }) rfl
  have o2 := Heap.get?_push_size (h := s.heap.push { cls := .type "list_iterator", data := .fields #[.ref l, .int 0 0] }) (o := { cls := .type "list", dict := none, data := .seq ([] : List Value).toArray }) rfl
  have old2 : ∀ b o, s.heap.get? b = some o → ((s.heap.push { cls := .type "list_iterator", data := .fields #[.ref l, .int 0 0] }).push { cls := .type "list", dict := none, data := .seq ([] : List Value).toArray }).get? b = some o := fun b o e => Heap.get?_push_of_some _ (Heap.get?_push_of_some _ e)
  have o1' := Heap.get?_push_of_some { cls := .type "list", dict := none, data := .seq ([] : List Value).toArray } o1
  rw [hDs] at o2
  generalize hH : (s.heap.push { cls := .type "list_iterator", data := .fields #[.ref l, .int 0 0] }).push { cls := .type "list", dict := none, data := .seq ([] : List Value).toArray } = H2 at *
  rw [hH2] at hns₁ hsb₁ ⊢
  rw [hDs]
  generalize hI : s.heap.objs.size = I at *
  have lt1 : I < I + 1 := Nat.lt_succ_self I
  have lt12 : I + 1 < I + 2 := Nat.lt_succ_self _
  have lt2 : I < I + 2 := Nat.lt_trans lt1 lt12
  have ext : ∀ b o, b ≠ I + 2 → H2.get? b = some o → h₁.get? b = some o := fun b o hb e => hsb₁.extBut b o hb (Heap.get?_push_of_some _ e)
  have hLI : env.locals < I := by rw [← hI]; exact F.ns.lt
  have hltI : ∀ q ∈ nw₀, q.1 < I := fun q hq => by rw [← hI]; exact Heap.lt_size (N q hq).1
  obtain ⟨oL, es, ep, hoL, hdL, hkL, hfL⟩ := F.ns
  have nsL : ∀ h' : Heap, h'.get? env.locals = some oL → h'.Ns env.locals m := fun h' e => ⟨oL, es, ep, e, hdL, hkL, hfL⟩
  have fresh : ∀ b, env.locals ≤ b → h₀.get? b = none := fun b hb => Heap.get?_none_of_le (Nat.le_trans F.above hb)
  have hLlt : s.heap.get? env.locals = some oL := hoL
  have keep₁ : ∀ b o, s.heap.get? b = some o → h₁.get? b = some o := fun b o e => ext b o (Nat.ne_of_lt (Nat.lt_trans (show b < I from hI ▸ Heap.lt_size e) lt2)) (old2 b o e)
  have FC : Fr h₀ (I + 2) h₁ (fun x => ([] : List (Str × Value)).reverse.lookup x) := ⟨hns₁, fun b o e => keep₁ b o (F.keep b o e), Nat.le_trans F.above (Nat.le_of_lt (Nat.lt_trans hLI lt2))⟩
  have loop : ∀ s₃ : Shared, s₃ = { s with heap := h₁, toks := s.toks + ([] : List (Str × Value)).length } →
      codeAny (model prog w) A (.compLoop (.ListComp elt [⟨target, iter, ifs, 0⟩] scope pos) 0 (.ref I) (.ref (I + 1)) (compEnvC scope cl (I + 2) env)) (RR (.ref (I + 1)) (I + 2)) s₃ := by
    rintro s₃ rfl
    refine comp_loop_any (fun k s' => ∃ h' tk mc nw i it av n oL, (∀ h' : Heap, h'.get? env.locals = some oL → h'.Ns env.locals m) ∧ s' = { s with heap := h', toks := tk } ∧ Fr h₀ (I + 2) h' mc ∧ News h₀ (I + 2) h' ([(env.locals, oL), (I + 1, listOf (List.toArray av) n), (I, it)] ++ nw) ∧ h'.IsListIter I l i ∧ (∀ q ∈ nw, q.1 ≠ I ∧ q.1 ≠ I + 2 ∧ q.1 ≠ I + 1 ∧ q.1 ≠ env.locals) ∧ J i av nw ∧ i ≤ vs.length ∧ k = vs.length + 1 - i) ?_ (vs.length + 1)
      ⟨h₁, _, _, nw₀, 0, { cls := .type "list_iterator", data := .fields #[.ref l, .int 0 0] }, [], 0, oL, nsL, rfl, FC, ?_, ⟨_, ext I _ (by omega) o1', rfl, rfl⟩, ?_, hJ, Nat.zero_le _, rfl⟩
    · rintro k s' ⟨h', tk, mc, nw, i, it, av, n, oL, nsL, rfl, F', N', hit, hoff, hJi, hi, rfl⟩
      obtain ⟨nl, hm⟩ := hmem _ _ _ hJi
      have hl' : h'.IsList l vs.toArray := ⟨_, N'.get (List.mem_append_right _ hm), rfl, nl, rfl⟩
      have hnI : h₀.get? I = none := fresh _ (Nat.le_of_lt hLI)
      by_cases hlt : i < vs.length
      · have hx : vs[i]? = some vs[i] := List.getElem?_eq_getElem hlt
        refine wpAny_pyNext_list_item hit hl' (x := vs[i]) (by simpa using hx) fun h₂ hit₂ hs₂ => ?_
        have F₂ : Fr h₀ (I + 2) h₂ mc := F'.change hs₂ (Nat.ne_of_lt lt2) hnI
        have hit₂' := hit₂
        obtain ⟨o₂, ho₂, _⟩ := hit₂'
        have N₂ : News h₀ (I + 2) h₂ ([(env.locals, oL), (I + 1, listOf (List.toArray av) n), (I, o₂)] ++ nw) := fun q hq => by
          simp only [List.cons_append, List.nil_append, List.mem_cons] at hq
          have nn := fun (q : Addr × Obj) (hq : q ∈ [(env.locals, oL), (I + 1, listOf (List.toArray av) n), (I, it)] ++ nw) => N' q hq
          rcases hq with rfl | rfl | rfl | hq
          · exact ⟨(hs₂.2 _ (Nat.ne_of_lt hLI)).trans (nn _ (.head _)).1, (nn _ (.head _)).2⟩
          · exact ⟨(hs₂.2 (I + 1) (Nat.succ_ne_self I)).trans (nn _ (.tail _ (.head _))).1, (nn _ (.tail _ (.head _))).2⟩
          · exact ⟨ho₂, (nn _ (.tail _ (.tail _ (.head _)))).2⟩
          · exact ⟨(hs₂.2 q.1 (hoff q hq).1).trans (nn q (List.mem_append_right _ hq)).1, (nn q (List.mem_append_right _ hq)).2⟩
        refine hgo _ (i + 1) _ _ _ _ (List.getElem_mem hlt) hit₂ ?_
        have itAgain : ∀ h₃ : Heap, h₃.get? I = some o₂ → h₃.IsListIter I l (i + 1) := fun h₃ e => by
          obtain ⟨o', ho', hc', hd'⟩ := hit₂
          obtain rfl : o₂ = o' := Option.some.inj (ho₂.symm.trans ho')
          exact ⟨o₂, e, hc', hd'⟩
        refine wpAny_mono (turn i vs[i] I o₂ (I + 2) (I + 1) oL av n mc nw h₂ tk hx hJi (fun q hq => ⟨hltI q hq, Nat.lt_trans (hltI q hq) (by omega), Nat.lt_trans (hltI q hq) (by omega)⟩) ⟨Nat.lt_trans hLI (by omega), hLI, Nat.lt_trans hLI (by omega)⟩ hoff nsL F₂ N₂) (fun _ s₂ h₂ => wpAny_mono h₂ (fun ok s₃ h₃ => ?_) fun _ _ e => e) fun _ _ e => e
        cases ok with
        | false =>
          simp only [Bool.false_eq_true, if_false] at h₃ ⊢
          obtain ⟨h₄, tk₄, mc₄, nw₄, oL₄, rfl, F₄, N₄, ns₄, off₄, J₄⟩ := h₃
          exact ⟨vs.length + 1 - (i + 1), by omega, h₄, tk₄, mc₄, nw₄, i + 1, o₂, av, n, oL₄, ns₄, rfl, F₄, N₄, itAgain _ (N₄.get (.tail _ (.tail _ (.head _)))), off₄, J₄, hlt, rfl⟩
        | true =>
          simp only [if_true] at h₃ ⊢
          refine wpAny_mono h₃ (fun x s₄ h₄ => ?_) fun _ _ e => e
          obtain ⟨h₅, tk₅, mc₅, nw₅, oL₅, rfl, F₅, N₅, ns₅, off₅, J₅⟩ := h₄
          have hav := hlen _ _ _ hJi
          have offD : ∀ q ∈ (I, o₂) :: nw₅, q.1 ≠ I + 1 := fun q hq => by
            rcases List.mem_cons.mp hq with rfl | hq
            · exact (Nat.succ_ne_self I).symm
            · exact (off₅ q hq).2.2.1
          refine append_K F₅ N₅ (.tail (Nat.ne_of_lt (Nat.lt_trans hLI (by omega))) (.head offD)) ?_ (by rw [List.size_toArray, sizeLine_eq]; omega)
          intro h₆ F₆ N₆
          rw [List.push_toArray] at N₆
          exact ⟨vs.length + 1 - (i + 1), by omega, h₆, tk₅, mc₅, nw₅, i + 1, o₂, av ++ [x], n + 1, oL₅, ns₅, rfl, F₆, N₆, itAgain _ (N₆.get (.tail _ (.tail _ (.head _)))), off₅, J₅, hlt, rfl⟩
      · have hie : i = vs.length := by omega
        subst hie
        refine wpAny_pyNext_list_end hh hit hl' (by simp) fun h₂ he₂ => ?_
        refine done (I + 1) (I + 2) n av nw mc oL h₂ tk hJi (fun q hq => Nat.lt_trans (hltI q hq) (by omega)) ⟨Nat.lt_trans hLI (by omega), Nat.lt_trans hLI (by omega), by show I + 1 ≠ I + 2; omega⟩ (fun q hq => ⟨(hoff q hq).2.1, (hoff q hq).2.2.1, (hoff q hq).2.2.2⟩) nsL ⟨F'.ns.extBut he₂ (Nat.ne_of_gt lt2), fun b o e => he₂ b o (fun z => ?_) (F'.keep b o e), F'.above⟩ fun q hq => ?_
        · rw [z, hnI] at e; cases e
        · simp only [List.mem_cons] at hq
          rcases hq with rfl | rfl | hq
          · have z := N' (env.locals, oL) (.head _)
            exact ⟨he₂ _ _ (Nat.ne_of_lt hLI) z.1, z.2⟩
          · have z := N' (I + 1, listOf (List.toArray av) n) (.tail _ (.head _))
            exact ⟨he₂ _ _ (Nat.succ_ne_self I) z.1, z.2⟩
          · have z := N' q (List.mem_append_right _ hq)
            exact ⟨he₂ _ _ (hoff q hq).1 z.1, z.2⟩
    · intro q hq
      simp only [List.cons_append, List.nil_append, List.mem_cons] at hq
      rcases hq with rfl | rfl | rfl | hq
      · exact ⟨keep₁ _ _ hLlt, Nat.ne_of_lt (Nat.lt_trans hLI (by omega)), fresh _ (Nat.le_refl _)⟩
      · exact ⟨ext _ _ (by show I + 1 ≠ I + 2; omega) o2, (by show I + 1 ≠ I + 2; omega), fresh _ (Nat.le_of_lt (Nat.lt_trans hLI (by omega)))⟩
      · exact ⟨ext _ _ (by omega) o1', (by show I ≠ I + 2; omega), fresh _ (Nat.le_of_lt hLI)⟩
      · exact ⟨keep₁ _ _ (N q hq).1, Nat.ne_of_lt (Nat.lt_trans (hltI q hq) (by omega)), (N q hq).2.2⟩
    · intro q hq
      exact ⟨Nat.ne_of_lt (hltI q hq), Nat.ne_of_lt (Nat.lt_trans (hltI q hq) (by omega)), Nat.ne_of_lt (Nat.lt_trans (hltI q hq) (by omega)), (N q hq).2.1⟩
  exact codeAny_compStart_list (loop _ rfl) (wpAny_pyIter_listiter ⟨_, ext I _ (by omega) o1', rfl, rfl⟩ (loop _ rfl))
theorem comp_range_any {r : Addr} {n : Nat} {t₀ u₀ v₀ : Tok} {m : Str → Option Value} {nw₀ : List (Addr × Obj)} (J : Nat → List Value → List (Addr × Obj) → Prop) (hLe : env.locals = L)
    (hcells : ∀ y ∈ scope.names, y.2 ≠ .cell) (hkind : scope.kind = .function) (hh : A.handled = none) (F : Fr h₀ L s.heap m) (N : News h₀ L s.heap nw₀) (hr : IsRange s.heap r 0 (n : Int) 1 t₀ u₀ v₀) (hJ : J 0 [] nw₀) (hsz : n < 10000) (hlen : ∀ i av nw, J i av nw → av.length ≤ i)
    (turn : ∀ i t I it C D oL av k mc nw h tk, i < n → J i av nw → (∀ q ∈ nw₀, q.1 < I ∧ q.1 < C ∧ q.1 < D) → (L < C ∧ L < I ∧ L < D) → (∀ q ∈ nw, q.1 ≠ I ∧ q.1 ≠ C ∧ q.1 ≠ D ∧ q.1 ≠ L) → (∀ h' : Heap, h'.get? L = some oL → h'.Ns L m) → Fr h₀ C h mc → News h₀ C h ([(L, oL), (D, listOf (List.toArray av) k), (I, it)] ++ nw) →
      wpAny (model prog w) A (assign (.Name x px) (compEnvC scope cl C env) (.int (i : Int) t)) (fun _ s₂ =>
        wpAny (model prog w) A (forIn ifs true fun c r => if r = true then do let ok ← isTrue c (compEnvC scope cl C env) (eval c (compEnvC scope cl C env)); pure (ForInStep.yield ok) else pure (ForInStep.yield r)) (fun ok s₃ =>
          if ok = true then wpAny (model prog w) A (eval elt (compEnvC scope cl C env)) (fun x s₄ => CompEnd h₀ C L m [(D, listOf (List.toArray av) k), (I, it)] (fun a => a ≠ I ∧ a ≠ C ∧ a ≠ D ∧ a ≠ L) (J (i + 1) (av ++ [x])) { s with heap := h, toks := tk } s₄) (fun _ _ => False) s₃
          else CompEnd h₀ C L m [(D, listOf (List.toArray av) k), (I, it)] (fun a => a ≠ I ∧ a ≠ C ∧ a ≠ D ∧ a ≠ L) (J (i + 1) av) { s with heap := h, toks := tk } s₃) (fun _ _ => False) s₂) (fun _ _ => False) { s with heap := h, toks := tk })
    (done : ∀ D C k av nw mc oL h tk, J n av nw → (∀ q ∈ nw₀, q.1 < D) → (L < D ∧ L < C ∧ D ≠ C) → (∀ q ∈ nw, q.1 ≠ C ∧ q.1 ≠ D ∧ q.1 ≠ L) → (∀ h' : Heap, h'.get? L = some oL → h'.Ns L m) → Fr h₀ C h mc → News h₀ C h ((L, oL) :: (D, listOf (List.toArray av) k) :: nw) → RR (.ref D) C (.ok .next) { s with heap := h, toks := tk }) :
    wpAny (model prog w) A (pyIter (.ref r)) (fun it s₂ => wpAny (model prog w) A (newList []) (fun acc s₃ => wpAny (model prog w) A (newFunctionEnv scope env.globals cl [] env.qual none .none (some env)) (fun cenv s₄ =>
      codeAny (model prog w) A (.compStart (.ListComp elt [⟨.Name x px, iter, ifs, 0⟩] scope pos) 0 it acc { cenv with scope := relabel scope env }) (RR acc cenv.locals) s₄) E s₃) E s₂) E s := by
  subst hLe
  have hrs : Builtin.Range.rangeSize 0 (n : Int) 1 = (n : Int) := by
    unfold Builtin.Range.rangeSize
    split <;> simp <;> omega
  refine wpAny_pyIter_range hr (small_one (by decide) (by decide) (by omega) (by omega)) ?_
  rw [hrs]
  refine wpAny_newObj_type (wpAny_newFunctionEnv hcells (by intro y hy; simp at hy) (fun h₁ hns₁ hsb₁ => ?_) hkind)
  dsimp only at hns₁ hsb₁ ⊢
  have e0 : rit n 0 = { cls := .type "range_iterator", data := .fields #[rawInt 0, rawInt (n : Int), rawInt 1] } := by unfold rit; simp
  rw [← e0] at hns₁ hsb₁ ⊢
  have hH2 : ((s.heap.push (rit n 0)).push { cls := .type "list", dict := none, data := .seq ([] : List Value).toArray }).objs.size = s.heap.objs.size + 2 := by rw [Heap.size_push, Heap.size_push]
  have hDs : (s.heap.push (rit n 0)).objs.size = s.heap.objs.size + 1 := by rw [Heap.size_push]
  have o1 := Heap.get?_push_size (h := s.heap) (o := rit n 0) rfl
  have o2 := Heap.get?_push_size (h := s.heap.push (rit n 0)) (o := { cls := .type "list", dict := none, data := .seq ([] : List Value).toArray }) rfl
  have old2 : ∀ b o, s.heap.get? b = some o → ((s.heap.push (rit n 0)).push { cls := .type "list", dict := none, data := .seq ([] : List Value).toArray }).get? b = some o := fun b o e => Heap.get?_push_of_some _ (Heap.get?_push_of_some _ e)
  have o1' := Heap.get?_push_of_some { cls := .type "list", dict := none, data := .seq ([] : List Value).toArray } o1
  rw [hDs] at o2
  generalize hH : (s.heap.push (rit n 0)).push { cls := .type "list", dict := none, data := .seq ([] : List Value).toArray } = H2 at *
  rw [hH2] at hns₁ hsb₁ ⊢
  rw [hDs]
  generalize hI : s.heap.objs.size = I at *
  have lt1 : I < I + 1 := Nat.lt_succ_self I
  have lt12 : I + 1 < I + 2 := Nat.lt_succ_self _
  have lt2 : I < I + 2 := Nat.lt_trans lt1 lt12
  have ext : ∀ b o, b ≠ I + 2 → H2.get? b = some o → h₁.get? b = some o := fun b o hb e => hsb₁.extBut b o hb (Heap.get?_push_of_some _ e)
  have hLI : env.locals < I := by rw [← hI]; exact F.ns.lt
  have hltI : ∀ q ∈ nw₀, q.1 < I := fun q hq => by rw [← hI]; exact Heap.lt_size (N q hq).1
  obtain ⟨oL, es, ep, hoL, hdL, hkL, hfL⟩ := F.ns
  have nsL : ∀ h' : Heap, h'.get? env.locals = some oL → h'.Ns env.locals m := fun h' e => ⟨oL, es, ep, e, hdL, hkL, hfL⟩
  have fresh : ∀ b, env.locals ≤ b → h₀.get? b = none := fun b hb => Heap.get?_none_of_le (Nat.le_trans F.above hb)
  have hLlt : s.heap.get? env.locals = some oL := hoL
  have keep₁ : ∀ b o, s.heap.get? b = some o → h₁.get? b = some o := fun b o e => ext b o (Nat.ne_of_lt (Nat.lt_trans (show b < I from hI ▸ Heap.lt_size e) lt2)) (old2 b o e)
  have FC : Fr h₀ (I + 2) h₁ (fun x => ([] : List (Str × Value)).reverse.lookup x) := ⟨hns₁, fun b o e => keep₁ b o (F.keep b o e), Nat.le_trans F.above (Nat.le_of_lt (Nat.lt_trans hLI lt2))⟩
  have hit₁ : h₁.get? I = some (rit n 0) := ext I _ (by omega) o1'
  have loop : ∀ s₃ : Shared, s₃ = { s with heap := h₁, toks := s.toks + ([] : List (Str × Value)).length } →
      codeAny (model prog w) A (.compLoop (.ListComp elt [⟨.Name x px, iter, ifs, 0⟩] scope pos) 0 (.ref I) (.ref (I + 1)) (compEnvC scope cl (I + 2) env)) (RR (.ref (I + 1)) (I + 2)) s₃ := by
    rintro s₃ rfl
    refine comp_loop_any (fun k s' => ∃ h' tk mc nw i av c oL, (∀ h' : Heap, h'.get? env.locals = some oL → h'.Ns env.locals m) ∧ s' = { s with heap := h', toks := tk } ∧ Fr h₀ (I + 2) h' mc ∧ News h₀ (I + 2) h' ([(env.locals, oL), (I + 1, listOf (List.toArray av) c), (I, rit n i)] ++ nw) ∧ (∀ q ∈ nw, q.1 ≠ I ∧ q.1 ≠ I + 2 ∧ q.1 ≠ I + 1 ∧ q.1 ≠ env.locals) ∧ J i av nw ∧ i ≤ n ∧ k = n + 1 - i) ?_ (n + 1)
      ⟨h₁, _, _, nw₀, 0, [], 0, oL, nsL, rfl, FC, ?_, ?_, hJ, Nat.zero_le _, rfl⟩
    · rintro k s' ⟨h', tk, mc, nw, i, av, c, oL, nsL, rfl, F', N', hoff, hJi, hi, rfl⟩
      have hit : IsRangeIter h' I (i : Int) ((n : Int) - (i : Int)) 1 := N'.get (.tail _ (.tail _ (.head _)))
      have hnI : h₀.get? I = none := fresh _ (Nat.le_of_lt hLI)
      by_cases hlt : i < n
      · refine wpAny_pyNext_range_item hit (by omega) fun h₂ hit₂ hs₂ => ?_
        have F₂ : Fr h₀ (I + 2) h₂ mc := F'.change hs₂ (Nat.ne_of_lt lt2) hnI
        have ho₂ : h₂.get? I = some (rit n (i + 1)) := by
          have e : (i : Int) + 1 = ((i + 1 : Nat) : Int) := by push_cast; rfl
          have e2 : (n : Int) - (i : Int) - 1 = (n : Int) - ((i + 1 : Nat) : Int) := by push_cast; omega
          rw [e, e2] at hit₂
          exact hit₂
        have N₂ : News h₀ (I + 2) h₂ ([(env.locals, oL), (I + 1, listOf (List.toArray av) c), (I, rit n (i + 1))] ++ nw) := fun q hq => by
          simp only [List.cons_append, List.nil_append, List.mem_cons] at hq
          have nn := fun (q : Addr × Obj) (hq : q ∈ [(env.locals, oL), (I + 1, listOf (List.toArray av) c), (I, rit n i)] ++ nw) => N' q hq
          rcases hq with rfl | rfl | rfl | hq
          · exact ⟨(hs₂.2 _ (Nat.ne_of_lt hLI)).trans (nn _ (.head _)).1, (nn _ (.head _)).2⟩
          · exact ⟨(hs₂.2 (I + 1) (Nat.succ_ne_self I)).trans (nn _ (.tail _ (.head _))).1, (nn _ (.tail _ (.head _))).2⟩
          · exact ⟨ho₂, (nn _ (.tail _ (.tail _ (.head _)))).2⟩
          · exact ⟨(hs₂.2 q.1 (hoff q hq).1).trans (nn q (List.mem_append_right _ hq)).1, (nn q (List.mem_append_right _ hq)).2⟩
        refine wpAny_pure ?_
        refine wpAny_mono (turn i tk I (rit n (i + 1)) (I + 2) (I + 1) oL av c mc nw h₂ (tk + 1) hlt hJi (fun q hq => ⟨hltI q hq, Nat.lt_trans (hltI q hq) (by omega), Nat.lt_trans (hltI q hq) (by omega)⟩) ⟨Nat.lt_trans hLI (by omega), hLI, Nat.lt_trans hLI (by omega)⟩ hoff nsL F₂ N₂) (fun _ s₂ h₂ => wpAny_mono h₂ (fun ok s₃ h₃ => ?_) fun _ _ e => e) fun _ _ e => e
        cases ok with
        | false =>
          simp only [Bool.false_eq_true, if_false] at h₃ ⊢
          obtain ⟨h₄, tk₄, mc₄, nw₄, oL₄, rfl, F₄, N₄, ns₄, off₄, J₄⟩ := h₃
          exact ⟨n + 1 - (i + 1), by omega, h₄, tk₄, mc₄, nw₄, i + 1, av, c, oL₄, ns₄, rfl, F₄, N₄, off₄, J₄, hlt, rfl⟩
        | true =>
          simp only [if_true] at h₃ ⊢
          refine wpAny_mono h₃ (fun x s₄ h₄ => ?_) fun _ _ e => e
          obtain ⟨h₅, tk₅, mc₅, nw₅, oL₅, rfl, F₅, N₅, ns₅, off₅, J₅⟩ := h₄
          have hav := hlen _ _ _ hJi
          have offD : ∀ q ∈ (I, rit n (i + 1)) :: nw₅, q.1 ≠ I + 1 := fun q hq => by
            rcases List.mem_cons.mp hq with rfl | hq
            · exact (Nat.succ_ne_self I).symm
            · exact (off₅ q hq).2.2.1
          refine append_K F₅ N₅ (.tail (Nat.ne_of_lt (Nat.lt_trans hLI (by omega))) (.head offD)) ?_ (by rw [List.size_toArray, sizeLine_eq]; omega)
          intro h₆ F₆ N₆
          rw [List.push_toArray] at N₆
          exact ⟨n + 1 - (i + 1), by omega, h₆, tk₅, mc₅, nw₅, i + 1, av ++ [x], c + 1, oL₅, ns₅, rfl, F₆, N₆, off₅, J₅, hlt, rfl⟩
      · have hie : i = n := by omega
        subst hie
        refine wpAny_pyNext_range_end hh hit (by omega) fun h₂ he₂ => ?_
        refine done (I + 1) (I + 2) c av nw mc oL h₂ tk hJi (fun q hq => Nat.lt_trans (hltI q hq) (by omega)) ⟨Nat.lt_trans hLI (by omega), Nat.lt_trans hLI (by omega), by show I + 1 ≠ I + 2; omega⟩ (fun q hq => ⟨(hoff q hq).2.1, (hoff q hq).2.2.1, (hoff q hq).2.2.2⟩) nsL ⟨F'.ns.extBut he₂ (Nat.ne_of_gt lt2), fun b o e => he₂ b o (fun z => ?_) (F'.keep b o e), F'.above⟩ fun q hq => ?_
        · rw [z, hnI] at e; cases e
        · simp only [List.mem_cons] at hq
          rcases hq with rfl | rfl | hq
          · have z := N' (env.locals, oL) (.head _)
            exact ⟨he₂ _ _ (Nat.ne_of_lt hLI) z.1, z.2⟩
          · have z := N' (I + 1, listOf (List.toArray av) c) (.tail _ (.head _))
            exact ⟨he₂ _ _ (Nat.succ_ne_self I) z.1, z.2⟩
          · have z := N' q (List.mem_append_right _ hq)
            exact ⟨he₂ _ _ (hoff q hq).1 z.1, z.2⟩
    · intro q hq
      simp only [List.cons_append, List.nil_append, List.mem_cons] at hq
      rcases hq with rfl | rfl | rfl | hq
      · exact ⟨keep₁ _ _ hLlt, Nat.ne_of_lt (Nat.lt_trans hLI (by omega)), fresh _ (Nat.le_refl _)⟩
      · exact ⟨ext _ _ (by show I + 1 ≠ I + 2; omega) o2, (by show I + 1 ≠ I + 2; omega), fresh _ (Nat.le_of_lt (Nat.lt_trans hLI (by omega)))⟩
      · exact ⟨hit₁, (by show I ≠ I + 2; omega), fresh _ (Nat.le_of_lt hLI)⟩
      · exact ⟨keep₁ _ _ (N q hq).1, Nat.ne_of_lt (Nat.lt_trans (hltI q hq) (by omega)), (N q hq).2.2⟩
    · intro q hq
      exact ⟨Nat.ne_of_lt (hltI q hq), Nat.ne_of_lt (Nat.lt_trans (hltI q hq) (by omega)), Nat.ne_of_lt (Nat.lt_trans (hltI q hq) (by omega)), (N q hq).2.1⟩
  have hrit : IsRangeIter h₁ I ((0 : Nat) : Int) ((n : Int) - ((0 : Nat) : Int)) 1 := hit₁
  exact codeAny_compStart_list (loop _ rfl) (wpAny_pyIter_rangeiter hrit (loop _ rfl))
/-- behind a comprehension that a name is given at once -/
theorem post_use {C D : Addr} {m mc : Str → Option Value} {oL oD : Obj} {nw : List (Addr × Obj)} {y : Str} {py : Pos} {Q : Flow → Shared → Prop} {h : Heap} {tk : Nat} (hLe : env.locals = L) (hk : env.scope.kind = .function) (hy : env.kindOf y = some .local)
    (F : Fr h₀ C h mc) (N : News h₀ C h ((L, oL) :: (D, oD) :: nw)) (hl : L < D ∧ L < C ∧ D ≠ C) (off : ∀ q ∈ nw, q.1 ≠ C ∧ q.1 ≠ D ∧ q.1 ≠ L) (hns : ∀ h' : Heap, h'.get? L = some oL → h'.Ns L m) (ha : h₀.objs.size ≤ L)
    (hQ : ∀ h' tk', Fr h₀ L h' (fun z => if z = y then some (.ref D) else m z) → News h₀ L h' ((D, oD) :: nw) → Q .next { s with heap := h', toks := tk' }) :
    compPost (model prog w) A E (some (assign (.Name y py) env)) (fun _ s' => Q .next s') (.ref D) C (.ok .next) { s with heap := h, toks := tk } := by
  have o1 : ∀ q ∈ (D, oD) :: nw, q.1 ≠ L := fun q hq => by
    rcases List.mem_cons.mp hq with rfl | hq
    · exact Nat.ne_of_gt hl.1
    · exact (off q hq).2.2
  obtain ⟨oC, hC, F1, N1⟩ := swap_fr F N hns ha o1
  show wpAny _ A (assign (.Name y py) env (.ref D)) _ _ _
  refine wpAny_assign_Name (stE F1 N1 ?_ hLe hk hy)
  intro h2 F2 N2
  refine ⟨mc, hC h2 (N2.get (.head _)), fun h3 hs3 => ?_⟩
  have hCL : C ≠ L := Nat.ne_of_gt hl.2.1
  have hCn : h₀.get? C = none := (N2 (C, oC) (.head _)).2.2
  refine hQ h3 _ (F2.change hs3 hCL hCn) fun q hq => ?_
  have z := N2 q (.tail _ hq)
  refine ⟨(hs3.2 _ ?_).trans z.1, z.2⟩
  rcases List.mem_cons.mp hq with rfl | hq
  · exact hl.2.2
  · exact (off q hq).1
theorem assign_comp {elt target iter : PySem.Expr} {ifs : List PySem.Expr} {y : Str} {py pos spos : Pos} {scope : Scope} {cl : List (Str × Addr)} {Q : Flow → Shared → Prop}
    (hsw : swapsWith (.ListComp elt [⟨target, iter, ifs, 0⟩] scope pos) (some (.Name y py)) spos.line env = pure true) (hs : ∀ x, foldedSetIterable iter env x = pure x) (hclos : closureFor scope env = pure cl) (hkind : scope.kind = .function)
    (hnames : ∀ z ∈ scope.names, z.2 = .local → scope.names.lookup z.1 = some .local)
    (h : wpAny (model prog w) A (eval iter env) (fun xv s₁ => wpAny (model prog w) A (pyIter xv) (fun it s₂ => wpAny (model prog w) A (newList []) (fun acc s₃ => wpAny (model prog w) A (newFunctionEnv scope env.globals cl [] env.qual none .none (some env)) (fun cenv s₄ =>
      codeAny (model prog w) A (.compStart (.ListComp elt [⟨target, iter, ifs, 0⟩] scope pos) 0 it acc { cenv with scope := relabel scope env }) (compPost (model prog w) A E (some (assign (.Name y py) env)) (fun _ s' => Q .next s') acc cenv.locals) s₄) E s₃) E s₂) E s₁) E s) :
    wpAny (model prog w) A (exec (.Assign [.Name y py] (.ListComp elt [⟨target, iter, ifs, 0⟩] scope pos) spos) env) Q E s := by
  rw [exec_Assign_Name_used _ _ _ _ hsw]
  refine wpAny_bind (wpAny_standAt (wpAny_bind ?_))
  show wpAny _ A (do let _ ← comprehension (.ListComp elt [⟨target, iter, ifs, 0⟩] scope pos) scope env _ (newList []) false (eval iter env) (some (assign (.Name y py) env))) _ _ s
  refine wpAny_bind (wpAny_mono (wpAny_comprehension_free (use := some (assign (.Name y py) env)) (Q := fun _ s' => Q .next s') rfl hs hclos hkind hnames h) (fun _ s' hq => wpAny_pure (wpAny_pure hq)) fun _ _ e => e)
end
end Mine
end PartM1

section PartM2
open PySem PySem.W PyProof.Rows
namespace Mine
local macro_rules | `(tactic| walk_at "pad0") => `(tactic| skip)
local macro_rules | `(tactic| k_mem) => `(tactic| with_reducible assumption)
local macro_rules | `(tactic| walk_at "eval Name") => `(tactic| (k_here; k_dflt (refine' ldE ?F ?v ?_ ?c ?k ?l ?d; (case F => k_asm); (case c => exact rfl); (case k => exact rfl); (case l => exact rfl); (case d => decide); (case v => first | exact rfl | assumption); k_whole)))
local macro_rules | `(tactic| walk_at "storeName") => `(tactic| (k_here; k_dflt (refine' stE ?F ?N ?_ ?c ?k ?l; (case F => k_asm); (case N => k_asm); (case c => exact rfl); (case k => exact rfl); (case l => exact rfl); k_whole); intro h' F' N'))
local macro_rules | `(tactic| walk_at "subscriptTail Name Slice ref ref") => `(tactic| (refine Hold.out ?_))
local macro_rules | `(tactic| walk_at "pyIter ref") => `(tactic| (refine Hold.out ?_))
def lawComp (i : Nat) : PySem.Expr := match (bodyOf (topStmt 17)).getD i default with
  | .Assign _ (.BinOp _ _ e _) _ => e
  | .Assign _ e _ => e
  | _ => default
abbrev lawEnv (L fa : Addr) (cd : Value) : Env := envOfC (Str.ofString "law") (scopeOf (topStmt 17)) L fa cd
theorem ints_end {h₀ h' : Heap} {C L D I : Addr} {it oL : Obj} {av av' : List Value} {n tk k : Nat} {ds : List Dat} {m mc : Str → Option Value} {nw : List (Addr × Obj)} {s₁ : Shared}
    (hns : ∀ h' : Heap, h'.get? L = some oL → h'.Ns L m) (F : Fr h₀ C h' mc) (N : News h₀ C h' ((L, oL) :: (D, listOf (List.toArray av) n) :: (I, it) :: nw)) (offs : ∀ q ∈ nw, q.1 ≠ I ∧ q.1 ≠ C ∧ q.1 ≠ D ∧ q.1 ≠ L) (hd : DatAll [] av' ds) (hk : av'.length = k) :
    CompEnd h₀ C L m [(D, listOf (List.toArray av) n), (I, it)] (fun a => a ≠ I ∧ a ≠ C ∧ a ≠ D ∧ a ≠ L) (fun nw' => nw' = nw ∧ DatAll [] av' ds ∧ av'.length = k) s₁ { s₁ with heap := h', toks := tk } :=
  ⟨h', tk, mc, nw, oL, rfl, F, N, hns, offs, rfl, hd, hk⟩
theorem ints_snoc {xs : List Int} {i : Nat} (hi : i < xs.length) {av : List Value} {f : Int → Int} {t : Tok} (h : DatAll [] av ((xs.take i).map fun x => Dat.int (f x))) : DatAll [] (av ++ [.int (f xs[i]) t]) ((xs.take (i + 1)).map fun x => Dat.int (f x)) := by
  rw [← List.take_append_getElem hi, List.map_append]
  exact h.append (.cons (.int _ _) .nil)
section
variable {w : World} {A : Around} {base h₀ : Heap} {outer : List Env} {L : Addr} {s : Shared} {m mg mb : Str → Option Value} {news : List (Addr × Obj)} {p : Program} {loose : List Str} {mean : ExcName → Option Value} {Q : Value → Shared → Prop}
set_option maxRecDepth 100000 in
set_option maxHeartbeats 1000000 in
theorem law_codes {sa fa : Addr} {cd : Value} {sv : List Value} {ns : List Int} (F : Fr h₀ L s.heap m) (X₀ : (hd.heap_39 w.params).In h₀) (N : News h₀ L s.heap news)
   (hh : A.handled = none) (hs : h₀.IsList sa sv.toArray) (hi : IntsAre sv ns) (hsl : ns.length ≤ 63) (ms : m (Str.ofString "script") = some (.ref sa))
   (h : ∀ D n av h' tk news', Fr h₀ L h' m → News h₀ L h' ((D, listOf (List.toArray av) n) :: news') → (∀ q ∈ news', q.1 < D) → (∃ S oS, news' = (S, oS) :: news ∧ ∀ q ∈ news, q.1 < S) → DatAll [] av ((ns.take 4).map fun x => Dat.int (x.fmod 54)) → Q (.ref D) { s with heap := h', toks := tk }) :
   wpAny (model PySem.Challenge.rw_pe0101_01.row.prog w) (A.deeper (lawEnv L fa cd)) (eval (lawComp 0) (lawEnv L fa cd)) Q (fun _ _ => False) s := by
  revert X₀
  k_fill
  intro X₀
  have e1 : scopeOf (topStmt 17) = Scope.mk _ _ _ _ _ := rfl
  have e2 : lawComp 0 = PySem.Expr.ListComp _ [⟨PySem.Expr.Name _ _, PySem.Expr.Subscript _ _ _, [], 0⟩] _ _ := rfl
  unfold lawEnv
  rw [e1, e2]
  rw [eval_ListComp]
  refine wpAny_comprehension_free (use := none) (cl := []) rfl (by intro _; rfl) rfl rfl (by decide) ?_
  show wpAny _ _ (eval (PySem.Expr.Subscript _ _ _) _) _ _ _
  k_steps
  show wpAny _ _ _ _ _ _
  have hs1 : s.heap.IsList sa sv.toArray := let ⟨o, ho, hc, n, hd⟩ := hs; ⟨o, F.keep _ _ ho, hc, n, hd⟩
  refine kmk_slice_lit (its := sv.toArray) (zs := sv.take 4) F N hs1 IsPart.none (IsPart.int _ _) ((pick_upto sv (by decide)).trans (by congr 1)) ?_ (by with_unfolding_all rfl) (by kmk_pure) (by rw [List.size_toArray, sizeLine_eq, hi.length]; omega)
  intro S hS FS NS lS
  clear F N
  k_steps
  show wpAny _ _ _ _ _ _
  have hl4 : (sv.take 4).length = (ns.take 4).length := (hi.take 4).length
  have hle : (ns.take 4).length ≤ 4 := by rw [List.length_take]; omega
  refine comp_list (L := L) (cl := []) (vs := sv.take 4) (fun i av nw => nw = (S, listOf (List.toArray (sv.take 4)) 0) :: news ∧ DatAll [] av (((ns.take 4).take i).map fun x => Dat.int (x.fmod 54)) ∧ av.length = i) rfl (by decide) rfl hh FS NS ⟨rfl, .nil, rfl⟩ ?_ (by omega) ?_ go_name ?_ ?_
  · rintro i av nw ⟨rfl, _⟩
    exact ⟨0, .head _⟩
  · rintro i av nw ⟨rfl, _, e⟩
    omega
  · rintro i v I it C D oL av n mc' nw h5 tk5 hv ⟨rfl, hav, hal⟩ lo hLC offs hns F5 N5
    obtain ⟨x, t, rfl, hx⟩ := (hi.take 4).at i v hv
    obtain ⟨hi4, rfl⟩ := List.getElem?_eq_some_iff.mp hx
    generalize hxs : ns.take 4 = xs at *
    simp only [List.cons_append, List.nil_append] at N5
    clear FS NS lS
    k_steps
    rename Fr _ _ _ _ => Fx
    rename News _ _ _ _ => Nx
    exact ints_end hns Fx Nx offs (ints_snoc hi4 hav) (by simp [hal])
  · rintro D2 n av nw h5 tk5 ⟨rfl, hav, hal⟩ off lo F5 N5
    rw [hl4, List.take_length] at hav
    exact h D2 n av h5 tk5 _ F5 N5 lo ⟨S, _, rfl, lS⟩ hav
set_option maxRecDepth 100000 in
set_option maxHeartbeats 1000000 in
theorem law_values {sa fa : Addr} {cd : Value} {sv : List Value} {ns : List Int} (F : Fr h₀ L s.heap m) (X₀ : (hd.heap_39 w.params).In h₀) (N : News h₀ L s.heap news)
   (hh : A.handled = none) (hs : h₀.IsList sa sv.toArray) (hi : IntsAre sv ns) (hsl : ns.length ≤ 63) (ms : m (Str.ofString "script") = some (.ref sa))
   (h : ∀ D n av h' tk news', Fr h₀ L h' m → News h₀ L h' ((D, listOf (List.toArray av) n) :: news') → (∀ q ∈ news', q.1 < D) → (∃ S oS, news' = (S, oS) :: news ∧ ∀ q ∈ news, q.1 < S) → DatAll [] av ((ns.take 4).map fun x => Dat.int (x.fmod 1013 - 500)) → Q (.ref D) { s with heap := h', toks := tk }) :
   wpAny (model PySem.Challenge.rw_pe0101_01.row.prog w) (A.deeper (lawEnv L fa cd)) (eval (lawComp 1) (lawEnv L fa cd)) Q (fun _ _ => False) s := by
  revert X₀
  k_fill
  intro X₀
  have e1 : scopeOf (topStmt 17) = Scope.mk _ _ _ _ _ := rfl
  have e2 : lawComp 1 = PySem.Expr.ListComp _ [⟨PySem.Expr.Name _ _, PySem.Expr.Subscript _ _ _, [], 0⟩] _ _ := rfl
  unfold lawEnv
  rw [e1, e2]
  rw [eval_ListComp]
  refine wpAny_comprehension_free (use := none) (cl := []) rfl (by intro _; rfl) rfl rfl (by decide) ?_
  show wpAny _ _ (eval (PySem.Expr.Subscript _ _ _) _) _ _ _
  k_steps
  show wpAny _ _ _ _ _ _
  have hs1 : s.heap.IsList sa sv.toArray := let ⟨o, ho, hc, n, hd⟩ := hs; ⟨o, F.keep _ _ ho, hc, n, hd⟩
  refine kmk_slice_lit (its := sv.toArray) (zs := sv.take 4) F N hs1 IsPart.none (IsPart.int _ _) ((pick_upto sv (by decide)).trans (by congr 1)) ?_ (by with_unfolding_all rfl) (by kmk_pure) (by rw [List.size_toArray, sizeLine_eq, hi.length]; omega)
  intro S hS FS NS lS
  clear F N
  k_steps
  show wpAny _ _ _ _ _ _
  have hl4 : (sv.take 4).length = (ns.take 4).length := (hi.take 4).length
  have hle : (ns.take 4).length ≤ 4 := by rw [List.length_take]; omega
  refine comp_list (L := L) (cl := []) (vs := sv.take 4) (fun i av nw => nw = (S, listOf (List.toArray (sv.take 4)) 0) :: news ∧ DatAll [] av (((ns.take 4).take i).map fun x => Dat.int (x.fmod 1013 - 500)) ∧ av.length = i) rfl (by decide) rfl hh FS NS ⟨rfl, .nil, rfl⟩ ?_ (by omega) ?_ go_name ?_ ?_
  · rintro i av nw ⟨rfl, _⟩
    exact ⟨0, .head _⟩
  · rintro i av nw ⟨rfl, _, e⟩
    omega
  · rintro i v I it C D oL av n mc' nw h5 tk5 hv ⟨rfl, hav, hal⟩ lo hLC offs hns F5 N5
    obtain ⟨x, t, rfl, hx⟩ := (hi.take 4).at i v hv
    obtain ⟨hi4, rfl⟩ := List.getElem?_eq_some_iff.mp hx
    generalize hxs : ns.take 4 = xs at *
    simp only [List.cons_append, List.nil_append] at N5
    clear FS NS lS
    k_steps
    rename Fr _ _ _ _ => Fx
    rename News _ _ _ _ => Nx
    exact ints_end hns Fx Nx offs (ints_snoc hi4 hav) (by simp [hal])
  · rintro D2 n av nw h5 tk5 ⟨rfl, hav, hal⟩ off lo F5 N5
    rw [hl4, List.take_length] at hav
    exact h D2 n av h5 tk5 _ F5 N5 lo ⟨S, _, rfl, lS⟩ hav
end
end Mine
end PartM2

section PartM3
open PySem PySem.W PyProof.Rows
namespace Mine
local macro_rules | `(tactic| k_mem) => `(tactic| with_reducible assumption)
local macro_rules | `(tactic| walk_at "eval Name") => `(tactic| (k_here; k_dflt (refine' ldE ?F ?v ?_ ?c ?k ?l ?d; (case F => k_asm); (case c => exact rfl); (case k => exact rfl); (case l => exact rfl); (case d => decide); (case v => first | exact rfl | assumption); k_whole)))
local macro_rules | `(tactic| walk_at "storeName") => `(tactic| (k_here; k_dflt (refine' stE ?F ?N ?_ ?c ?k ?l; (case F => k_asm); (case N => k_asm); (case c => exact rfl); (case k => exact rfl); (case l => exact rfl); k_whole); intro h' F' N'))
local macro_rules | `(tactic| walk_at "binaryOp Pow int int") => `(tactic| (k_here; (with_reducible refine pow_int_small ?kb1 ?kb2 ?kb3 ?_); (case kb1 => with_reducible assumption); (case kb2 => with_reducible assumption); (case kb3 => decide)))
local macro_rules | `(tactic| walk_at "pyIter ref") => `(tactic| (refine Hold.out ?_))
def passOf (c : Int) : Pass := (c.fmod 3, (c.fdiv 3).fmod 2 == 1, 2 ^ (c.fdiv 6).toNat)
theorem data_end {h₀ h' : Heap} {C L' D I x : Addr} {it oL ox : Obj} {av : List Value} {n tk : Nat} {m mc : Str → Option Value} {new bs : List (Addr × Obj)} {α : Type} {g : α → Dat} {xs : List α} {i : Nat} {s₁ : Shared} (hi : i < xs.length) (hns : ∀ h' : Heap, h'.get? L' = some oL → h'.Ns L' m)
    (F : Fr h₀ C h' mc) (N : News h₀ C h' ((x, ox) :: (L', oL) :: (D, listOf (List.toArray av) n) :: (I, it) :: (new ++ bs))) (l : L' < x ∧ D < x ∧ I < x ∧ AllLt x (new ++ bs))
    (offs : ∀ q ∈ new ++ bs, q.1 ≠ I ∧ q.1 ≠ C ∧ q.1 ≠ D ∧ q.1 ≠ L') (hlt : ∀ q ∈ new, ∀ r ∈ bs, r.1 < q.1) (hA : DatAll new av ((xs.take i).map g)) (hav : av.length = i) (hx : DatIn ((x, ox) :: new) (.ref x) (g xs[i])) :
    CompEnd h₀ C L' m [(D, listOf (List.toArray av) n), (I, it)] (fun a => a ≠ I ∧ a ≠ C ∧ a ≠ D ∧ a ≠ L') (fun nw => ∃ new, nw = new ++ bs ∧ (∀ q ∈ new, ∀ r ∈ bs, r.1 < q.1) ∧ DatAll new (av ++ [.ref x]) ((xs.take (i + 1)).map g) ∧ (av ++ [Value.ref x]).length = i + 1) s₁ { s₁ with heap := h', toks := tk } := by
  refine ⟨h', tk, mc, (x, ox) :: (new ++ bs), oL, rfl, F, fun q hq => N q ?_, hns, fun q hq => ?_, (x, ox) :: new, rfl, fun q hq r hr => ?_, ?_, by simp [hav]⟩
  · simp only [List.mem_cons, List.mem_append, List.not_mem_nil, or_false] at hq ⊢
    rcases hq with h1 | (h1 | h1) | h1 | h1 | h1 <;> simp [h1]
  · rcases List.mem_cons.mp hq with rfl | hq
    · exact ⟨Nat.ne_of_gt l.2.2.1, (N _ (.head _)).2.1, Nat.ne_of_gt l.2.1, Nat.ne_of_gt l.1⟩
    · exact offs q hq
  · rcases List.mem_cons.mp hq with rfl | hq
    · exact allLt_out l.2.2.2 r (List.mem_append_right _ hr)
    · exact hlt q hq r hr
  · rw [← List.take_append_getElem hi, List.map_append]
    exact (hA.mono fun q hq => .tail _ hq).append (.cons hx .nil)
def lawStmt (i : Nat) : Stmt := (bodyOf (topStmt 17)).getD i default
theorem s2_fin {h₀ h' : Heap} {L D : Addr} {av : List Value} {n : Nat} {a b : Addr × Obj} {new rest : List (Addr × Obj)} {ds : List Dat} {R : Prop}
    (h : ∀ add, News h₀ L h' (a :: b :: (add ++ rest)) → (∀ q ∈ add, a.1 < q.1 ∧ b.1 < q.1) → (D, listOf (List.toArray av) n) ∈ add → DatAll add av ds → R)
    (N : News h₀ L h' ((D, listOf (List.toArray av) n) :: (new ++ a :: b :: rest))) (lD : ∀ q ∈ a :: b :: rest, q.1 < D) (ln : ∀ q ∈ new, ∀ r ∈ a :: b :: rest, r.1 < q.1) (hd : DatAll new av ds) : R := by
  refine h ((D, _) :: new) (fun q hq => N q ?_) (fun q hq => ?_) (.head _) (hd.mono fun q hq => .tail _ hq)
  · simp only [List.mem_cons, List.cons_append, List.mem_append] at hq ⊢
    rcases hq with h1 | h1 | h1 | h1 | h1 <;> simp [h1]
  · rcases List.mem_cons.mp hq with rfl | hq
    · exact ⟨lD _ (.head _), lD _ (.tail _ (.head _))⟩
    · exact ⟨ln q hq _ (.head _), ln q hq _ (.tail _ (.head _))⟩
section
variable {w : World} {A : Around} {base h₀ : Heap} {outer : List Env} {L : Addr} {s : Shared} {m mg mb : Str → Option Value} {rest : List (Addr × Obj)} {p : Program} {loose : List Str} {mean : ExcName → Option Value} {Q : Flow → Shared → Prop}
set_option maxRecDepth 100000 in
set_option maxHeartbeats 1000000 in
theorem law_s2 {ca fa : Addr} {cd : Value} {cv : List Value} {nc : Nat} {xs : List Int} {a b : Addr × Obj} (F : Fr h₀ L s.heap m) (X₀ : (hd.heap_39 w.params).In h₀) (N : News h₀ L s.heap (a :: b :: rest))
   (hh : A.handled = none) (hca : (ca, listOf cv.toArray nc) ∈ rest) (hC : DatAll [] cv (xs.map Dat.int)) (hb : ∀ x ∈ xs, 0 ≤ x ∧ x < 54) (hsl : xs.length ≤ 7) (ms : m (Str.ofString "codes") = some (.ref ca))
   (h : ∀ h' tk pa pv n add, Fr h₀ L h' (fun y => if y = Str.ofString "passes" then some (.ref pa) else m y) → News h₀ L h' (a :: b :: (add ++ rest)) → (∀ q ∈ add, a.1 < q.1 ∧ b.1 < q.1) → (pa, listOf (List.toArray pv) n) ∈ add → DatAll add pv (xs.map fun x => passD (passOf x)) → Q .next { s with heap := h', toks := tk }) :
   wpAny (model PySem.Challenge.rw_pe0101_01.row.prog w) (A.deeper (lawEnv L fa cd)) (exec (lawStmt 2) (lawEnv L fa cd)) Q (fun _ _ => False) s := by
  revert X₀
  k_fill
  intro X₀
  have e1 : scopeOf (topStmt 17) = Scope.mk _ _ _ _ _ := rfl
  have e2 : lawStmt 2 = Stmt.Assign [PySem.Expr.Name _ _] (PySem.Expr.ListComp _ [⟨PySem.Expr.Name _ _, PySem.Expr.Name _ _, [], 0⟩] _ _) _ := rfl
  have hlen := hC.length
  rw [List.length_map] at hlen
  have ha : h₀.objs.size ≤ L := F.above
  unfold lawEnv
  rw [e1, e2]
  refine assign_comp (cl := []) (by with_unfolding_all rfl) (by intro _; rfl) rfl rfl (by decide) ?_
  refine ldE F ms ?_ rfl rfl rfl (by decide)
  refine comp_list_any (L := L) (cl := []) (vs := cv) (RR := fun acc C => compPost _ _ _ _ _ acc C) (fun i av nw => ∃ new, nw = new ++ (a :: b :: rest) ∧ (∀ q ∈ new, ∀ r ∈ a :: b :: rest, r.1 < q.1) ∧ DatAll new av ((xs.take i).map fun x => passD (passOf x)) ∧ av.length = i) rfl (by decide) rfl hh F N ⟨[], rfl, (fun _ h => nomatch h), .nil, rfl⟩ ?_ (by omega) ?_ go_name ?_ ?_
  · rintro i av nw ⟨new, rfl, _⟩
    exact ⟨nc, List.mem_append_right _ (.tail _ (.tail _ hca))⟩
  · rintro i av nw ⟨new, rfl, _, _, e⟩
    omega
  · rintro i v I it C D oL av n mc' nw h5 tk5 hv ⟨new, rfl, hlt, hav, hal⟩ lo hLC offs hns F5 N5
    have hi : i < xs.length := by rw [← hlen]; exact (List.getElem?_eq_some_iff.mp hv).1
    obtain ⟨v', hv', hd⟩ := dat_at hC (List.getElem?_eq_getElem hi)
    rw [hv] at hv'
    cases hv'
    obtain ⟨b0, b1⟩ := hb _ (List.getElem_mem hi)
    generalize hc : xs[i] = c at *
    cases hd
    rename_i t
    simp only [List.cons_append, List.nil_append] at N5
    have z0 : 0 ≤ c.fdiv 6 := by rw [Int.fdiv_eq_ediv_of_nonneg _ (by decide)]; omega
    have z1 : c.fdiv 6 ≤ 1000000 := by rw [Int.fdiv_eq_ediv_of_nonneg _ (by decide)]; omega
    clear F N
    k_steps
    rename Fr _ _ _ _ => Fx
    rename News _ _ _ _ => Nx
    refine data_end hi hns Fx Nx (by assumption) offs hlt hav hal ?_
    rw [hc]
    exact .list (.head _) (.cons (.int _ _) (.cons (.bool _) (.cons (.int _ _) .nil)))
  · rintro D C n av nw mc oL h5 tk5 ⟨new, rfl, hlt, hA, hav⟩ lo hl off hns F5 N5
    rw [hlen, List.take_length] at hA
    refine post_use rfl rfl rfl F5 N5 hl off hns ha ?_
    intro h6 tk6 F6 N6
    refine s2_fin (fun add N0 hlo hm hd => ?_) N6 lo hlt hA
    exact h _ _ D av n add F6 N0 hlo hm hd
end
end Mine
end PartM3

section PartM4
open PySem PySem.W PyProof.Rows
namespace Mine
local macro_rules | `(tactic| k_mem) => `(tactic| with_reducible assumption)
local macro_rules | `(tactic| walk_at "eval Name") => `(tactic| (k_here; k_dflt (refine' ldE ?F ?v ?_ ?c ?k ?l ?d; (case F => k_asm); (case c => exact rfl); (case k => exact rfl); (case l => exact rfl); (case d => decide); (case v => first | exact rfl | assumption); k_whole)))
local macro_rules | `(tactic| walk_at "eval Name") => `(tactic| (k_here; k_dflt (refine' ldCell ?N ?c ?m ?v ?_ ?k ?l ?d; (case N => k_asm); (case k => exact rfl); (case l => exact rfl); (case d => decide); (case c => exact rfl); (case m => with_reducible assumption); (case v => assumption); k_whole)))
local macro_rules | `(tactic| walk_at "storeName") => `(tactic| (k_here; k_dflt (refine' stE ?F ?N ?_ ?c ?k ?l; (case F => k_asm); (case N => k_asm); (case c => exact rfl); (case k => exact rfl); (case l => exact rfl); k_whole); intro h' F' N'))
local macro_rules | `(tactic| walk_at "pyIter ref") => `(tactic| (refine Hold.out ?_))
local macro_rules | `(tactic| walk_at "call builtin:len") => `(tactic| (k_here; k_dflt (refine' my_len ?N ?l ?e ?b ?_; (case N => k_asm); (case l => with_reducible assumption); (case e => with_reducible assumption); (case b => with_reducible assumption); k_whole); intro t' tk'))
local macro_rules | `(tactic| walk_at "subscriptTail Name Name ref int") => `(tactic| (k_here; (with_reducible show wpAny _ _ (subscriptTail _ _ (Value.ref _) (Value.int _ _)) _ _ _); (with_unfolding_all refine' my_item ?k1 ?k2 ?k3 ?k4 ?k5 ?_ ?k6; (case k1 => k_asm); (case k2 => with_reducible assumption); (case k3 => with_reducible assumption); (case k4 => with_reducible assumption); (case k5 => with_reducible assumption); (case k6 => with_unfolding_all rfl); k_whole)))
def cardsOf (xs : List Int) : List Card := (List.range xs.length).map fun k => (xs.getD k 0, (k : Int))
theorem cards_length (xs : List Int) : (cardsOf xs).length = xs.length := by simp [cardsOf]
theorem cards_at {xs : List Int} {i : Nat} (hi : i < xs.length) (hi' : i < (cardsOf xs).length) : (cardsOf xs)[i] = (xs[i], (i : Int)) := by simp [cardsOf, hi]
section
variable {w : World} {A : Around} {base h₀ : Heap} {outer : List Env} {L : Addr} {s : Shared} {m mg mb : Str → Option Value} {rest : List (Addr × Obj)} {p : Program} {loose : List Str} {mean : ExcName → Option Value} {Q : Flow → Shared → Prop}
set_option maxRecDepth 100000 in
set_option maxHeartbeats 1000000 in
theorem law_s3 {va fa : Addr} {cd : Value} {cv : List Value} {nc : Nat} {oc : Obj} {xs : List Int} {b : Addr × Obj} (B : Below A base outer h₀) (F : Fr h₀ L s.heap m) (X₀ : (hd.heap_39 w.params).In h₀) (N : News h₀ L s.heap ((L + 1, oc) :: b :: rest)) (T : Top p loose mean mg mb h₀)
   (hh : A.handled = none) (hva0 : (va, listOf cv.toArray nc) ∈ rest) (hC : DatAll [] cv (xs.map Dat.int)) (hsl : xs.length ≤ 10) (dc : oc.data = .cell (some (.ref va)))
   (h : ∀ h' tk pa pv n add, Fr h₀ L h' (fun y => if y = Str.ofString "cards" then some (.ref pa) else m y) → News h₀ L h' ((L + 1, oc) :: b :: (add ++ rest)) → (∀ q ∈ add, L + 1 < q.1 ∧ b.1 < q.1) → (pa, listOf (List.toArray pv) n) ∈ add → DatAll add pv ((cardsOf xs).map cardD) → Q .next { s with heap := h', toks := tk }) :
   wpAny (model PySem.Challenge.rw_pe0101_01.row.prog w) (A.deeper (lawEnv L fa cd)) (exec (lawStmt 3) (lawEnv L fa cd)) Q (fun _ _ => False) s := by
  revert X₀
  k_fill
  intro X₀
  have e1 : scopeOf (topStmt 17) = Scope.mk _ _ _ _ _ := rfl
  have e2 : lawStmt 3 = Stmt.Assign [PySem.Expr.Name _ _] (PySem.Expr.ListComp _ [⟨PySem.Expr.Name _ _, PySem.Expr.Call _ _ _ _, [], 0⟩] _ _) _ := rfl
  have hlen := hC.length
  rw [List.length_map] at hlen
  have zq : ((xs.length : Nat) : Int) < 2 ^ 62 := by omega
  have ha : h₀.objs.size ≤ L := F.above
  have hva : (va, listOf cv.toArray nc) ∈ (L + 1, oc) :: b :: rest := .tail _ (.tail _ hva0)
  have hcm : (L + 1, oc) ∈ (L + 1, oc) :: b :: rest := .head _
  unfold lawEnv
  rw [e1, e2]
  refine assign_comp (cl := [(Str.ofString "values", L + 1)]) (by with_unfolding_all rfl) (by intro _; rfl) rfl rfl (by decide) ?_
  k_steps
  rename IsRange _ _ _ _ _ _ _ _ => hR
  rename Fr _ _ _ _ => FR
  rename News _ _ _ _ => NR
  show wpAny _ _ _ _ _ _
  have hcl := cards_length xs
  refine comp_range_any (L := L) (cl := [(Str.ofString "values", L + 1)]) (n := xs.length) (RR := fun acc C => compPost _ _ _ _ _ acc C) (fun i av nw => ∃ new, nw = new ++ ((L + 1, oc) :: b :: rest) ∧ (∀ q ∈ new, ∀ r ∈ (L + 1, oc) :: b :: rest, r.1 < q.1) ∧ DatAll new av (((cardsOf xs).take i).map cardD) ∧ av.length = i) rfl (by decide) rfl hh FR NR hR ⟨[], rfl, (fun _ h => nomatch h), .nil, rfl⟩ (by omega) ?_ ?_ ?_
  · rintro i av nw ⟨new, rfl, _, _, e⟩
    omega
  · rintro i t I it C D oL av n mc' nw h5 tk5 hi ⟨new, rfl, hlt, hav, hal⟩ lo hLC offs hns F5 N5
    obtain ⟨v', hv', hd⟩ := dat_at hC (List.getElem?_eq_getElem hi)
    have hi' : i < (cardsOf xs).length := by omega
    have hca := cards_at hi hi'
    generalize hc : xs[i] = c at *
    cases hd
    rename_i tc
    have hv2 : cv[((i : Nat) : Int).toNat]? = some (Value.int c tc) := by simpa using hv'
    have y0 : (0 : Int) ≤ ((i : Nat) : Int) := by omega
    have y1 : ((i : Nat) : Int) < 2 ^ 63 := by omega
    generalize hbs : (L + 1, oc) :: b :: rest = bs at *
    simp only [List.cons_append, List.nil_append] at N5
    have hva5 : (va, listOf cv.toArray nc) ∈ (L, oL) :: (D, listOf (List.toArray av) n) :: (I, it) :: (new ++ bs) := .tail _ (.tail _ (.tail _ (List.mem_append_right _ hva)))
    have hcm5 : (L + 1, oc) ∈ (L, oL) :: (D, listOf (List.toArray av) n) :: (I, it) :: (new ++ bs) := .tail _ (.tail _ (.tail _ (List.mem_append_right _ hcm)))
    clear FR NR hR
    k_steps
    rename Fr _ _ _ _ => Fx
    rename News _ _ _ _ => Nx
    refine data_end hi' hns Fx Nx (by assumption) offs hlt hav hal ?_
    rw [hca]
    exact .list (.head _) (.cons (.int _ _) (.cons (.int _ _) .nil))
  · rintro D C n av nw mc oL h5 tk5 ⟨new, rfl, hlt, hA, hav⟩ lo hl off hns F5 N5
    rw [← hcl, List.take_length] at hA
    refine post_use rfl rfl rfl F5 N5 hl off hns ha ?_
    intro h6 tk6 F6 N6
    refine s2_fin (fun add N0 hlo hm hd => ?_) N6 lo hlt hA
    exact h _ _ D av n add F6 N0 hlo hm hd
end
end Mine
end PartM4

section PartM5
open PySem PySem.W PyProof.Rows
namespace Mine
def codesOf (ns : List Int) : List Int := 7 :: 21 :: 38 :: (ns.take 4).map fun x => x.fmod 54
def valuesOf (ns : List Int) : List Int := 0 :: 256 :: -1 :: 255 :: 12 :: 0 :: (ns.take 4).map fun x => x.fmod 1013 - 500
theorem codes_length (ns : List Int) : (codesOf ns).length ≤ 7 := by simp [codesOf]; omega
theorem values_length (ns : List Int) : 6 ≤ (valuesOf ns).length ∧ (valuesOf ns).length ≤ 10 := by simp [valuesOf]; omega
theorem codes_bound (ns : List Int) : ∀ c ∈ codesOf ns, 0 ≤ c ∧ c < 54 := by
  intro c hc
  simp only [codesOf, List.mem_cons, List.mem_map] at hc
  rcases hc with rfl | rfl | rfl | ⟨x, _, rfl⟩
  · decide
  · decide
  · decide
  · rw [Int.fmod_eq_emod_of_nonneg _ (by decide)]
    omega
theorem pass_ok {c : Int} (h0 : 0 ≤ c) (h1 : c < 54) : Ok (passOf c) ∧ 1 ≤ (passOf c).2.2 ∧ (passOf c).2.2 ≤ 256 := by
  have e6 : c.fdiv 6 = c / 6 := Int.fdiv_eq_ediv_of_nonneg _ (by decide)
  have e3 : c.fmod 3 = c % 3 := Int.fmod_eq_emod_of_nonneg _ (by decide)
  have he : (c / 6).toNat ≤ 8 := by omega
  have hk : c % 3 = 0 ∨ c % 3 = 1 ∨ c % 3 = 2 := by omega
  refine ⟨fun x => ?_, ?_⟩
  · show viewB (c.fmod 3) (2 ^ (c.fdiv 6).toNat) x = yesB (c.fmod 3) (2 ^ (c.fdiv 6).toNat) x
    rw [e6, e3]
    exact ok_all _ he _ hk x
  · show (1 : Int) ≤ 2 ^ (c.fdiv 6).toNat ∧ (2 : Int) ^ (c.fdiv 6).toNat ≤ 256
    rw [e6]
    have hc : (c / 6).toNat = 0 ∨ (c / 6).toNat = 1 ∨ (c / 6).toNat = 2 ∨ (c / 6).toNat = 3 ∨ (c / 6).toNat = 4 ∨ (c / 6).toNat = 5 ∨ (c / 6).toNat = 6 ∨ (c / 6).toNat = 7 ∨ (c / 6).toNat = 8 := by omega
    rcases hc with h | h | h | h | h | h | h | h | h <;> rw [h] <;> decide
theorem cards_pairwise (xs : List Int) : (cardsOf xs).Pairwise fun a b => a.2 < b.2 := by
  unfold cardsOf
  rw [List.pairwise_map]
  exact List.pairwise_lt_range.imp fun {a b} h => by dsimp only; omega
theorem ints_map {news : List (Addr × Obj)} {av : List Value} {xs : List Int} {f : Int → Int} (h : DatAll [] av (xs.map fun x => Dat.int (f x))) : DatAll news av ((xs.map f).map Dat.int) := by
  rw [List.map_map]
  exact DatAll.mono (fun q hq => (List.not_mem_nil hq).elim) h
end Mine
end PartM5

section PartM6
open PySem PySem.W PyProof.Rows
namespace Mine
local macro_rules | `(tactic| k_mem) => `(tactic| with_reducible assumption)
local macro_rules | `(tactic| walk_at "eval Name") => `(tactic| (k_here; k_dflt (refine' ldE ?F ?v ?_ ?c ?k ?l ?d; (case F => k_asm); (case c => exact rfl); (case k => exact rfl); (case l => exact rfl); (case d => decide); (case v => first | exact rfl | assumption); k_whole)))
local macro_rules | `(tactic| walk_at "storeName") => `(tactic| (k_here; k_dflt (refine' stE ?F ?N ?_ ?c ?k ?l; (case F => k_asm); (case N => k_asm); (case c => exact rfl); (case k => exact rfl); (case l => exact rfl); k_whole); intro h' F' N'))
local macro_rules | `(tactic| walk_at "eval ListComp") => `(tactic| (refine Hold.out ?_))
local macro_rules | `(tactic| walk_at "binaryOp Add ref ref") => `(tactic| (refine Hold.out ?_))
theorem s0_fin {h₀ h' : Heap} {L W D S t1 : Addr} {zs : List Value} {n : Nat} {oD oS oT : Obj} {a b : Addr × Obj} {rest : List (Addr × Obj)} {R : Prop}
    (h : ∀ add, News h₀ L h' (a :: b :: (add ++ rest)) → (∀ q ∈ add, a.1 < q.1 ∧ b.1 < q.1) → (W, listOf (List.toArray zs) n) ∈ add → R)
    (N : News h₀ L h' ((W, listOf (List.toArray zs) n) :: (D, oD) :: (S, oS) :: (t1, oT) :: a :: b :: rest)) (gW : a.1 < W ∧ b.1 < W) (gD : a.1 < D ∧ b.1 < D) (gS : a.1 < S ∧ b.1 < S) (gt : a.1 < t1 ∧ b.1 < t1) : R := by
  refine h [(W, _), (D, oD), (S, oS), (t1, oT)] (fun q hq => N q ?_) (fun q hq => ?_) (.head _)
  · simp only [List.mem_cons, List.cons_append, List.nil_append] at hq ⊢
    rcases hq with h1 | h1 | h1 | h1 | h1 | h1 | h1 <;> simp [h1]
  · simp only [List.mem_cons, List.not_mem_nil, or_false] at hq
    rcases hq with rfl | rfl | rfl | rfl
    · exact gW
    · exact gD
    · exact gS
    · exact gt
section
variable {w : World} {A : Around} {base h₀ : Heap} {outer : List Env} {L : Addr} {s : Shared} {m mg mb : Str → Option Value} {rest : List (Addr × Obj)} {p : Program} {loose : List Str} {mean : ExcName → Option Value} {Q : Flow → Shared → Prop}
set_option maxRecDepth 100000 in
set_option maxHeartbeats 1000000 in
theorem law_s0 {sa fa : Addr} {cd : Value} {sv : List Value} {ns : List Int} {a b : Addr × Obj} (F : Fr h₀ L s.heap m) (X₀ : (hd.heap_39 w.params).In h₀) (N : News h₀ L s.heap (a :: b :: rest))
   (hh : A.handled = none) (hs : h₀.IsList sa sv.toArray) (hi : IntsAre sv ns) (hsl : ns.length ≤ 63) (ms : m (Str.ofString "script") = some (.ref sa))
   (h : ∀ h' tk ca cv n add, Fr h₀ L h' (fun y => if y = Str.ofString "codes" then some (.ref ca) else m y) → News h₀ L h' (a :: b :: (add ++ rest)) → (∀ q ∈ add, a.1 < q.1 ∧ b.1 < q.1) → (ca, listOf (List.toArray cv) n) ∈ add → DatAll [] cv ((codesOf ns).map Dat.int) → Q .next { s with heap := h', toks := tk }) :
   wpAny (model PySem.Challenge.rw_pe0101_01.row.prog w) (A.deeper (lawEnv L fa cd)) (exec (lawStmt 0) (lawEnv L fa cd)) Q (fun _ _ => False) s := by
  revert X₀
  k_fill
  intro X₀
  have e1 : scopeOf (topStmt 17) = Scope.mk _ _ _ _ _ := rfl
  have e2 : lawStmt 0 = Stmt.Assign _ (PySem.Expr.BinOp _ _ _ _) _ := rfl
  unfold lawEnv
  rw [e1, e2]
  k_steps
  rename_i t1 h1 F1 N1 l1
  show wpAny _ _ _ _ _ _
  refine law_codes F1 X₀ N1 hh hs hi hsl ms ?_
  rintro D n av h2 tk2 _ F2 N2 l2 ⟨S, oS, rfl, l3⟩ hav
  clear F1 N1
  k_steps
  show wpAny _ _ _ _ _ _
  rename Fr _ _ _ _ => Fx
  rename News _ _ _ _ => Nx
  have hl := hav.length
  rw [List.length_map] at hl
  have hl4 : (ns.take 4).length ≤ 4 := by rw [List.length_take]; omega
  refine kmk_add_lit (its := _) (its2 := av.toArray) (zs := _) Fx Nx ⟨_, Nx.get (.tail _ (.tail _ (.head _))), rfl, _, rfl⟩ ⟨_, Nx.get (.head _), rfl, n, rfl⟩ rfl ?_ (by rw [sizeLine_eq]; simp; omega)
  intro W hW FW NW lW
  clear Fx Nx
  refine s0_fin (fun add N0 hlo hm => ?_) NW ⟨lW _ (.tail _ (.tail _ (.tail _ (.head _)))), lW _ (.tail _ (.tail _ (.tail _ (.tail _ (.head _)))))⟩ ⟨l2 _ (.tail _ (.tail _ (.head _))), l2 _ (.tail _ (.tail _ (.tail _ (.head _))))⟩ ⟨l3 _ (.tail _ (.head _)), l3 _ (.tail _ (.tail _ (.head _)))⟩ ⟨l1.1, l1.2.1⟩
  clear NW lW
  k_steps
  rename Fr _ _ _ _ => Fx
  rename News _ _ _ _ => Nx
  exact h _ _ W _ 0 add Fx Nx hlo hm (.cons (.int _ _) (.cons (.int _ _) (.cons (.int _ _) (ints_map hav))))
local macro_rules | `(tactic| walk_at "storeName") => `(tactic| (k_here; k_dflt (refine' storeX_C ?F ?N ?c ?U ?d ?_ ?a ?b; (case a => rfl); (case b => rfl); (case F => k_asm); (case N => k_asm); (case c => rfl); (case U => exact UpdF.head (by assumption)); (case d => assumption); k_whole); intro h' o' F' N' d'; (try dsimp only at N')))
set_option maxRecDepth 100000 in
set_option maxHeartbeats 1000000 in
theorem law_s1 {sa fa : Addr} {cd : Value} {sv : List Value} {ns : List Int} {oc : Obj} {b : Addr × Obj} {vk : Option Value} (F : Fr h₀ L s.heap m) (X₀ : (hd.heap_39 w.params).In h₀) (N : News h₀ L s.heap ((L + 1, oc) :: b :: rest))
   (hh : A.handled = none) (hs : h₀.IsList sa sv.toArray) (hi : IntsAre sv ns) (hsl : ns.length ≤ 63) (dc : oc.data = .cell vk) (hb : b.1 ≠ L + 1) (hr : ∀ q ∈ rest, q.1 ≠ L + 1) (ms : m (Str.ofString "script") = some (.ref sa))
   (h : ∀ h' tk ca cv n add oc', Fr h₀ L h' m → News h₀ L h' ((L + 1, oc') :: b :: (add ++ rest)) → oc'.data = .cell (some (.ref ca)) → (∀ q ∈ add, L + 1 < q.1 ∧ b.1 < q.1) → (ca, listOf (List.toArray cv) n) ∈ add → DatAll [] cv ((valuesOf ns).map Dat.int) → Q .next { s with heap := h', toks := tk }) :
   wpAny (model PySem.Challenge.rw_pe0101_01.row.prog w) (A.deeper (lawEnv L fa cd)) (exec (lawStmt 1) (lawEnv L fa cd)) Q (fun _ _ => False) s := by
  revert X₀
  k_fill
  intro X₀
  have e1 : scopeOf (topStmt 17) = Scope.mk _ _ _ _ _ := rfl
  have e2 : lawStmt 1 = Stmt.Assign _ (PySem.Expr.BinOp _ _ _ _) _ := rfl
  unfold lawEnv
  rw [e1, e2]
  k_steps
  rename_i t1 h1 F1 N1 l1
  show wpAny _ _ _ _ _ _
  refine law_values F1 X₀ N1 hh hs hi hsl ms ?_
  rintro D n av h2 tk2 _ F2 N2 l2 ⟨S, oS, rfl, l3⟩ hav
  clear F1 N1
  k_steps
  show wpAny _ _ _ _ _ _
  rename Fr _ _ _ _ => Fx
  rename News _ _ _ _ => Nx
  have hl := hav.length
  rw [List.length_map] at hl
  have hl4 : (ns.take 4).length ≤ 4 := by rw [List.length_take]; omega
  refine kmk_add_lit (its := _) (its2 := av.toArray) (zs := _) Fx Nx ⟨_, Nx.get (.tail _ (.tail _ (.head _))), rfl, _, rfl⟩ ⟨_, Nx.get (.head _), rfl, n, rfl⟩ rfl ?_ (by rw [sizeLine_eq]; simp; omega)
  intro W hW FW NW lW
  clear Fx Nx
  refine s0_fin (fun add N0 hlo hm => ?_) NW ⟨lW _ (.tail _ (.tail _ (.tail _ (.head _)))), lW _ (.tail _ (.tail _ (.tail _ (.tail _ (.head _)))))⟩ ⟨l2 _ (.tail _ (.tail _ (.head _))), l2 _ (.tail _ (.tail _ (.tail _ (.head _))))⟩ ⟨l3 _ (.tail _ (.head _)), l3 _ (.tail _ (.tail _ (.head _)))⟩ ⟨l1.1, l1.2.1⟩
  clear NW lW
  have offc : ∀ q ∈ b :: (add ++ rest), q.1 ≠ L + 1 := fun q hq => by
    rcases List.mem_cons.mp hq with rfl | hq
    · exact hb
    · rcases List.mem_append.mp hq with hq | hq
      · exact Nat.ne_of_gt (hlo q hq).1
      · exact hr q hq
  k_steps
  rename Fr _ _ _ _ => Fx
  rename News _ _ _ _ => Nx
  exact h _ _ W _ 0 add _ Fx Nx (by assumption) hlo hm (.cons (.int _ _) (.cons (.int _ _) (.cons (.int _ _) (.cons (.int _ _) (.cons (.int _ _) (.cons (.int _ _) (ints_map hav)))))))
end
end Mine
end PartM6

section PartM7
open PySem PySem.W PyProof.Rows
namespace Mine
local macro_rules | `(tactic| k_mem) => `(tactic| with_reducible assumption)
local macro_rules | `(tactic| walk_at "eval Name") => `(tactic| (k_here; k_dflt (refine' ldE ?F ?v ?_ ?c ?k ?l ?d; (case F => k_asm); (case c => exact rfl); (case k => exact rfl); (case l => exact rfl); (case d => decide); (case v => first | exact rfl | assumption); k_whole)))
local macro_rules | `(tactic| walk_at "call ref") => `(tactic| (refine Hold.out ?_))
local macro_rules | `(tactic| walk_at "compareOp Eq ref ref") => `(tactic| (refine Hold.out ?_))
theorem res_ok (T : List Card) (M : List Nat) : ∀ d ∈ [Dat.list (T.map cardD), Dat.list (M.map meetD)], kqdOk 8 d = true := by
  intro d hd
  simp only [List.mem_cons, List.not_mem_nil, or_false] at hd
  rcases hd with rfl | rfl
  · simp [kqdOk, cardD]
  · simp [kqdOk, meetD]
theorem dec_eq {α : Type} {a : α} {i : Decidable (a = a)} : @decide (a = a) i = true := decide_eq_true rfl
section
variable {w : World} {A : Around} {base h₀ : Heap} {outer : List Env} {L : Addr} {s : Shared} {m mg mb : Str → Option Value} {rest : List (Addr × Obj)} {p : Program} {loose : List Str} {mean : ExcName → Option Value} {Q : Flow → Shared → Prop}
set_option maxRecDepth 100000 in
set_option maxHeartbeats 1000000 in
theorem law_s4 {ca pa fa : Addr} {cd : Value} {cv pv : List Value} {nc np : Nat} {cs : List Card} {qs : List Pass} {ps : Array Value} (B : Below A base outer h₀) (F : Fr h₀ L s.heap m) (X₀ : (hd.heap_39 w.params).In h₀) (N : News h₀ L s.heap ((73, tabObj ps) :: rest)) (T : Top p loose mean mg mb h₀) (C : CodeHd h₀ 77 73)
   (hroom : A.depth + 80 < recursionLimit) (hu : A.units + 200 < cLine) (hh : A.handled = none) (off : ∀ q ∈ rest, q.1 ≠ 73) (hI : TabInv rest ps) (hca : (ca, listOf cv.toArray nc) ∈ rest) (hC : DatAll rest cv (cs.map cardD)) (hpa : (pa, listOf pv.toArray np) ∈ rest) (hP : DatAll rest pv (qs.map passD))
   (hq : ∀ q ∈ qs, 1 ≤ q.2.2 ∧ q.2.2 ≤ 256) (hsz : (qs.length + 1) * (cs.length + 1) < 5000) (h2 : 2 ≤ cs.length) (h64 : cs.length < 64) (hpl : cs.Pairwise fun a b => a.2 < b.2) (hok : ∀ q ∈ qs, Ok q)
   (mc : m (Str.ofString "cards") = some (.ref ca)) (mp : m (Str.ofString "passes") = some (.ref pa))
   (h : ∀ h' tk ps' news', Fr h₀ L h' m → News h₀ L h' news' → (73, tabObj ps') ∈ news' → Q (.ret (.bool true)) { s with heap := h', toks := tk }) :
   wpAny (model PySem.Challenge.rw_pe0101_01.row.prog w) (A.deeper (lawEnv L fa cd)) (exec (lawStmt 4) (lawEnv L fa cd)) Q (fun _ _ => False) s := by
  revert X₀
  k_fill
  intro X₀
  have e1 : scopeOf (topStmt 17) = Scope.mk _ _ _ _ _ := rfl
  have e2 : lawStmt 4 = Stmt.Return _ _ := rfl
  unfold lawEnv
  rw [e1, e2]
  k_steps
  show wpAny _ _ _ _ _ _
  refine c_laid (cs := cs) (qs := qs) B F X₀ N T C rfl rfl (by omega) hh off hI hca hC hpa hP (fun q h => ⟨by have := hq q h; omega, (hq q h).2⟩) hsz ?_
  intro h3 tk3 x ps3 news3 F3 N3 sub3 off3 hI3 hD3
  clear F N
  k_steps
  show wpAny _ _ _ _ _ _
  have sub4 : ∀ q ∈ rest, q ∈ (73, tabObj ps3) :: news3 := fun q hq => .tail _ (sub3 q hq)
  refine c_told (cs := cs) (qs := qs) B F3 X₀ N3 T rfl rfl (by omega) (by omega) hh (sub4 _ hca) (hC.mono sub4) (sub4 _ hpa) (hP.mono sub4) hq hsz h2 h64 hpl hok ?_
  intro h5 tk5 y news5 F5 N5 sub5 hD5
  clear F3 N3
  k_steps
  show wpAny _ _ _ _ _ _
  have hD3' : DatIn news5 (.ref x) _ := hD3.mono fun q hq => sub5 q (.tail _ hq)
  cases hD3' with
  | list m3 r3 =>
    cases hD5 with
    | list m5 r5 =>
      refine kqd_eq N5 m3 rfl rfl r3 (fun _ h => h) m5 rfl rfl r5 (fun _ h => h) (res_ok _ _) (res_ok _ _) (by simp only [units_deeper]; omega) ?_
      rw [dec_eq]
      exact h _ _ ps3 news5 F5 N5 (sub5 _ (.head _))
end
end Mine
end PartM7

section PartM8
open PySem PySem.W PyProof.Rows
namespace Mine
theorem set_other {m : Str → Option Value} {x y : Str} {v : Value} {u : Option Value} (hn : (y == x) = false) (h : m y = u) : (fun z => if z = x then some v else m z) y = u := by
  show (if y = x then some v else m y) = u
  rw [if_neg (by simpa using hn)]
  exact h
theorem set_same {m : Str → Option Value} {x : Str} {v : Value} : (fun z => if z = x then some v else m z) x = some v := if_pos rfl
section
variable {w : World} {A : Around} {base h₀ : Heap} {outer : List Env} {L : Addr} {s : Shared} {m mg mb : Str → Option Value} {p : Program} {loose : List Str} {mean : ExcName → Option Value} {Q : Flow → Shared → Prop}
set_option maxRecDepth 100000 in
set_option maxHeartbeats 1000000 in
theorem law_body {sa fa : Addr} {cd : Value} {sv : List Value} {ns : List Int} {oc : Obj} {vk : Option Value} (B : Below A base outer h₀) (F : Fr h₀ L s.heap m) (X₀ : (hd.heap_39 w.params).In h₀) (N : News h₀ L s.heap [(L + 1, oc), (73, tabObj #[])]) (T : Top p loose mean mg mb h₀) (C : CodeHd h₀ 77 73)
   (hroom : A.depth + 80 < recursionLimit) (hu : A.units + 200 < cLine) (hh : A.handled = none) (hs : h₀.IsList sa sv.toArray) (hi : IntsAre sv ns) (hsl : ns.length ≤ 63) (dc : oc.data = .cell vk) (l0 : 73 < L) (ms : m (Str.ofString "script") = some (.ref sa))
   (h : ∀ h' tk m' ps' news', Fr h₀ L h' m' → News h₀ L h' news' → (73, tabObj ps') ∈ news' → Q (.ret (.bool true)) { s with heap := h', toks := tk }) :
   wpAny (model PySem.Challenge.rw_pe0101_01.row.prog w) (A.deeper (lawEnv L fa cd)) (execs [lawStmt 0, lawStmt 1, lawStmt 2, lawStmt 3, lawStmt 4] (lawEnv L fa cd)) Q (fun _ _ => False) s := by
  have n73 : (73 : Nat) ≠ L + 1 := Nat.ne_of_lt (Nat.lt_succ_of_lt l0)
  refine wpAny_execs_cons (law_s0 F X₀ N hh hs hi hsl ms ?_)
  intro h1 tk1 ca cv n1 add1 F1 N1 l1 m1 d1
  refine wpAny_execs_cons (law_s1 F1 X₀ N1 hh hs hi hsl dc n73 (fun q hq => ?_) (set_other (by decide) ms) ?_)
  · rw [List.append_nil] at hq
    exact Nat.ne_of_gt (l1 q hq).1
  intro h2 tk2 va vv n2 add2 oc' F2 N2 dc' l2 m2 d2
  refine wpAny_execs_cons (law_s2 F2 X₀ N2 hh (List.mem_append_right _ (List.mem_append_left _ m1)) d1 (codes_bound ns) (codes_length ns) set_same ?_)
  intro h3 tk3 pa pv n3 add3 F3 N3 l3 m3 d3
  refine wpAny_execs_cons (law_s3 B F3 X₀ N3 T hh (List.mem_append_right _ (List.mem_append_left _ m2)) d2 (values_length ns).2 dc' ?_)
  intro h4 tk4 da dv n4 add4 F4 N4 l4 m4 d4
  have hl1 := codes_length ns
  have hl2 := values_length ns
  have hl3 := cards_length (valuesOf ns)
  have hall : ∀ q ∈ (L + 1, oc') :: (add4 ++ (add3 ++ (add2 ++ (add1 ++ [])))), q.1 ≠ 73 := fun q hq => by
    simp only [List.mem_cons, List.mem_append, List.not_mem_nil, or_false] at hq
    rcases hq with rfl | hq | hq | hq | hq
    · exact n73.symm
    · exact Nat.ne_of_gt (l4 q hq).2
    · exact Nat.ne_of_gt (l3 q hq).2
    · exact Nat.ne_of_gt (l2 q hq).2
    · exact Nat.ne_of_gt (l1 q hq).2
  have N5 : News h₀ L h4 ((73, tabObj #[]) :: (L + 1, oc') :: (add4 ++ (add3 ++ (add2 ++ (add1 ++ []))))) := fun q hq => N4 q (by
    rcases List.mem_cons.mp hq with rfl | hq
    · exact .tail _ (.head _)
    · rcases List.mem_cons.mp hq with rfl | hq
      · exact .head _
      · exact .tail _ (.tail _ hq))
  have hsz : ((codesOf ns).map passOf).length = (codesOf ns).length := List.length_map _
  have hz : (((codesOf ns).map passOf).length + 1) * ((cardsOf (valuesOf ns)).length + 1) < 5000 := by
    rw [hsz, hl3]
    have : ((codesOf ns).length + 1) * ((valuesOf ns).length + 1) ≤ 8 * 11 := Nat.mul_le_mul (by omega) (by omega)
    omega
  have s4 : ∀ q ∈ add4, q ∈ (L + 1, oc') :: (add4 ++ (add3 ++ (add2 ++ (add1 ++ [])))) := fun q hq => .tail _ (List.mem_append_left _ hq)
  have s3 : ∀ q ∈ add3, q ∈ (L + 1, oc') :: (add4 ++ (add3 ++ (add2 ++ (add1 ++ [])))) := fun q hq => .tail _ (List.mem_append_right _ (List.mem_append_left _ hq))
  have hpass : ∀ q ∈ (codesOf ns).map passOf, Ok q ∧ 1 ≤ q.2.2 ∧ q.2.2 ≤ 256 := fun q hq => by
    obtain ⟨c, hc, rfl⟩ := List.mem_map.mp hq
    have := codes_bound ns c hc
    exact pass_ok this.1 this.2
  refine wpAny_execs_cons (law_s4 (cs := cardsOf (valuesOf ns)) (qs := (codesOf ns).map passOf) B F4 X₀ N5 T C hroom hu hh hall TabInv.nil (s4 _ m4) (d4.mono s4) (s3 _ m3) (by rw [List.map_map]; exact d3.mono s3)
    (fun q hq => (hpass q hq).2) hz (by omega) (by omega) (cards_pairwise _) (fun q hq => (hpass q hq).1) set_same (by show (if _ then _ else _) = _; rw [if_neg (by decide)]; exact if_pos rfl) ?_)
  intro h5 tk5 ps' news' F5 N6 hm
  exact h h5 tk5 _ ps' news' F5 N6 hm
end
set_option maxRecDepth 100000 in
set_option maxHeartbeats 8000000 in
theorem law_holds : PySem.Challenge.rw_pe0101_01.Holds := hd (by
  k_go0
  all_goals (try k_fold)
  rename Fr _ _ _ _ => Fx
  rename News _ _ _ _ => Nx
  rename Below _ _ _ _ => Bx
  rename Top topProg _ _ _ _ _ => Tx
  rename (hd.heap_39 _).In _ => Xx
  rename (_ = Data.cell _) => dc
  rename IntsAre _ _ => hi
  rename (¬ (_ < _)) => hc
  rename (73 < _) => l0
  refine wpAny_mono (E := fun _ _ => False) (law_body Bx Fx Xx Nx Tx codeHd (by decide +kernel) (by decide +kernel) rfl lifted hi (by omega) dc l0 rfl ?_) (fun _ _ h => h) (fun _ _ h => h.elim)
  intro h' tk m' ps' news' F' N' hm
  refine ⟨?_, GrownAt.of N' hm, trivial⟩
  k_steps)
end Mine
end PartM8

set_option maxRecDepth 100000 in
set_option maxHeartbeats 8000000 in
theorem PySem.Challenge.cw_pe0101_01_holds : PySem.Challenge.rw_pe0101_01.Holds := by
  exact Mine.law_holds
