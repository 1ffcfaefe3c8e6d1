import PyProof.Rows.All
import Wide.All
import OpenK.AllK
import Wide.FinOn
import PySem.Challenge.RW_vy0011_01
open PySem PySem.W PyProof.Rows
set_option Elab.async false
namespace Vy
set_option maxRecDepth 100000 in
set_option maxHeartbeats 8000000 in
open_top hd for PySem.Challenge.rw_vy0011_01
end Vy
set_option maxRecDepth 100000
set_option maxHeartbeats 8000000
open PySem PySem.W PyProof.Rows PySem.Calls
theorem Vy.fill0 (w : World) (h : (Vy.hd.heap_39 w.params).In {}) : (Vy.hd.heap_39 w.params).In {} ∧ PySem.Challenge.rw_vy0011_01.row.prog = PySem.Challenge.rw_vy0011_01.row.prog := by
  k_fill
  exact ⟨h, rfl⟩
local macro_rules | `(tactic| k_room) => `(tactic| ktr_room)
set_option hygiene false in
local macro_rules | `(tactic| kp_kind "lk") => `(tactic| first | with_reducible assumption | with_reducible exact ml_hit | (refine ml_miss ?_ (by decide); kp_kind "lk") | rfl)
set_option hygiene false in
local macro_rules | `(tactic| kp_kind "s") => `(tactic| first | ((try with_reducible refine nrm (h := h') (gn := gn) (dr := dr) (os := os0) rfl rfl rfl rfl fun tkk => ?_); kp_kind "s1") | kp_kind "s1")
set_option hygiene false in
local macro_rules | `(tactic| kp_kind "s1") => `(tactic| first
  | with_reducible refine wpAny_execs_cons ?_
  | ((with_reducible show wpAny _ _ (eval _ _) _ _ _); first
      | ((with_reducible show wpAny _ _ (eval (Expr.Name _ _) _) _ _ _); first
        | refine nameX_L F (by kp_kind "lk") ?_ (by rfl) (by rfl)
        | refine nameX_K F X (topRead_of T) (by k_is) ?_ (by rfl) (by rfl)
        | refine nameX_B F X (topRead_of T) (by k_is) (by boot_fast) (by decide) ?_ (by rfl) (by rfl))
      | ((with_reducible show wpAny _ _ (eval (Expr.Constant _ _ _) _) _ _ _); first
        | refine wpAny_Constant_int ?_ | refine Calls.Constant_str ?_ | refine wpAny_Constant_none ?_ | refine wpAny_Constant_bool ?_)
      | ((with_reducible show wpAny _ _ (eval (Expr.Call (Expr.Attribute _ _ _) _ [] _) _) _ _ _); refine MethodCall_ ?_)
      | ((with_reducible show wpAny _ _ (eval (Expr.Call (Expr.Name _ _) _ [] _) _) _ _ _); refine Call_ ?_)
      | ((with_reducible show wpAny _ _ (eval (Expr.BinOp _ _ _ _) _) _ _ _); refine wpAny_BinOp ?_)
      | ((with_reducible show wpAny _ _ (eval (Expr.Compare _ [_] [_] _) _) _ _ _); refine wpAny_Compare1 ?_)
      | ((with_reducible show wpAny _ _ (eval (Expr.Attribute (Expr.Name _ _) _ _) _) _ _ _); refine Attribute_Name_ ?_)
      | ((with_reducible show wpAny _ _ (eval (Expr.Subscript _ _ _) _) _ _ _); refine Subscript_ ?_)
      | ((with_reducible show wpAny _ _ (eval (Expr.Slice _ _ _ _) _) _ _ _); refine wpAny_Slice ?_)
      | ((with_reducible show wpAny _ _ (eval (Expr.UnaryOp _ _ _) _) _ _ _); refine wpAny_UnaryOp ?_)
      | ((with_reducible show wpAny _ _ (eval (Expr.IfExp _ _ _ _) _) _ _ _); refine wpAny_IfExp ?_)
      | ((with_reducible show wpAny _ _ (eval (Expr.Tuple _ _ _) _) _ _ _); refine Tuple_ ?_)
      | ((with_reducible show wpAny _ _ (eval (Expr.List _ _) _) _ _ _); refine List_ ?_))
  | ((with_reducible show wpAny _ _ (exec _ _) _ _ _); first
      | ((with_reducible show wpAny _ _ (exec (Stmt.Assign [Expr.Name _ _] _ _) _) _ _ _); refine wpAny_Assign_Name ?_)
      | ((with_reducible show wpAny _ _ (exec (Stmt.Assign [Expr.Attribute _ _ _] _ _) _) _ _ _); refine plainObj_wpAny_Assign_Attribute ?_)
      | ((with_reducible show wpAny _ _ (exec (Stmt.Assign [Expr.Subscript _ _ _] _ _) _) _ _ _); refine wpAny_Assign_Subscript ?_)
      | ((with_reducible show wpAny _ _ (exec (Stmt.If _ _ _ _) _) _ _ _); refine wpAny_If ?_)
      | ((with_reducible show wpAny _ _ (exec (Stmt.Return (some _) _) _) _ _ _); refine wpAny_Return_some ?_)
      | ((with_reducible show wpAny _ _ (exec (Stmt.For _ _ _ _ _) _) _ _ _); refine wpAny_For ?_)
      | ((with_reducible show wpAny _ _ (exec (Stmt.Expr _ _) _) _ _ _); refine wpAny_Expr_any ?_)
      | ((with_reducible show wpAny _ _ (exec (Stmt.AugAssign (Expr.Name _ _) _ _ _) _) _ _ _); refine wpAny_AugAssign_Name ?_)
      | ((with_reducible show wpAny _ _ (exec (Stmt.Assign [Expr.Tuple _ _ _] _ _) _) _ _ _); refine Assign_Tuple ?_))
  | with_reducible refine wpAny_execs_nil ?_
  | ((with_reducible show wpAny _ _ (spliced (backTo _ (starEach (_ :: _) _))) _ _ _); refine args_cons ?_)
  | ((with_reducible show wpAny _ _ (spliced (backTo _ (starEach [] _))) _ _ _); refine args_nil ?_)
  | ((with_reducible show wpAny _ _ (isTrue (Expr.Compare _ [_] [_] _) _ _) _ _ _); refine wpAny_isTrue_Compare1 ?_)
  | ((with_reducible show wpAny _ _ (evalPart _ _) _ _ _); first | refine PySem.wpAny_evalPart_some ?_ | refine PySem.wpAny_evalPart_none ?_)
  | ((with_reducible show wpAny _ _ (loadName _ _) _ _ _); refine wpAny_loadName_local rfl (by rfl) F.ns (by kp_kind "lk") ?_)
  | ((with_reducible show wpAny _ _ (storeName _ _ _) _ _ _); refine storeX_L F N (fun h' F N => ?_) (by rfl) (by rfl))
  | ((with_reducible show wpAny _ _ (truthy (Value.bool _)) _ _ _); refine wpAny_truthy_bool ?_)
  | ((with_reducible show wpAny _ _ (callWith _ (Value.ref _) _ (backTo _ (starEach (_ :: _) _)) []) _ _ _); refine callWith_K X (by k_is) ?_)
  | ((with_reducible show Frag.In _ _ ∧ _); refine ⟨X.keeps F.keep, ?_⟩)
  | ((with_reducible show wpAny _ _ (call (Value.ref _) _ _) _ _ _); refine wpAny_call ?_)
  | ((with_reducible show wpAny _ _ (assign (Expr.Name _ _) _ _) _ _ _); refine PyProof.Rows.assign_Name ?_)
  | ((with_reducible show wpAny _ _ (assignInOrder _ _) _ _ _); first | (refine assignInOrder_cons ?_; try dsimp only) | refine assignInOrder_nil ?_)
  | ((with_reducible show wpAny _ _ (callWith _ (Value.builtin _) _ (backTo _ (starEach [] _)) []) _ _ _); refine callWith_method0 ?_)
  | ((with_reducible show wpAny _ _ (callWith _ (Value.builtin _) _ (backTo _ (starEach (_ :: _) _)) []) _ _ _); refine callWith_method1 ?_))
set_option hygiene false in
local macro_rules | `(tactic| kp_kind "k") => `(tactic| (refine leaveK_ F N ?_; clear F N; intro F N))
set_option hygiene false in
local macro_rules | `(tactic| kp_kind "mem") => `(tactic| first | with_reducible assumption | with_reducible exact List.mem_cons_self | (with_reducible refine List.mem_cons_of_mem _ ?_; kp_kind "mem"))
section
namespace Vy
/-! plain data: texts as lists of numbers -/
def S (l : List Nat) : Str := ⟨l.toArray⟩
theorem S_list (l : List Nat) : (S l).cps.toList = l := rfl
theorem S_len (l : List Nat) : (S l).length = l.length := List.size_toArray ..
theorem S_of (x : Str) : x = S x.cps.toList := by cases x; simp [S]
theorem S_inj {a b : List Nat} (h : S a = S b) : a = b := by have := congrArg (fun x : Str => x.cps.toList) h; simpa [S] using this
theorem S_append (a b : List Nat) : S a ++ S b = S (a ++ b) := by
  show (⟨_⟩ : Str) = ⟨_⟩
  congr 1
  simp [S]
def AC : List Nat := [97, 98, 39, 92, 40, 47, 41, 34, 33, 110, 49, 10]
def qW (w : List Nat) : Nat := reprQuote (S w)
def reprW (w : List Nat) : List Nat := (reprText (S w)).cps.toList
theorem qW_or (w : List Nat) : qW w = 34 ∨ qW w = 39 := by
  unfold qW reprQuote; split <;> simp
theorem foldl_push (f : Nat → List Nat) : ∀ (l : List Nat) (acc : Array Nat), (l.foldl (fun out c => out ++ (f c).toArray) acc).toList = acc.toList ++ l.flatMap f
  | [], acc => by simp
  | c :: l, acc => by rw [List.foldl_cons, foldl_push f l]; simp
theorem reprW_eq (w : List Nat) : reprW w = qW w :: (w.flatMap (Builtin.Str.reprChar (qW w)) ++ [qW w]) := by
  unfold reprW reprText
  show ((Array.push _ _).toList) = _
  rw [Array.toList_push, ← Array.foldl_toList, foldl_push]
  rfl
theorem rc_esc {q c : Nat} (h : c = q ∨ c = 92) : Builtin.Str.reprChar q c = [92, c] := by
  unfold Builtin.Str.reprChar
  rcases h with rfl | rfl <;> simp
theorem rc_nl {q : Nat} (h : q = 34 ∨ q = 39) : Builtin.Str.reprChar q 10 = [92, 110] := by rcases h with rfl | rfl <;> decide +kernel
theorem rc_plain {q c : Nat} (h : q = 34 ∨ q = 39) (hc : c ∈ AC) (h1 : c ≠ q) (h2 : c ≠ 92) (h3 : c ≠ 10) : Builtin.Str.reprChar q c = [c] := by
  have key : ∀ q ∈ [34, 39], ∀ c ∈ AC, c ≠ q → c ≠ 92 → c ≠ 10 → Builtin.Str.reprChar q c = [c] := by decide +kernel
  exact key q (by simpa using h) c hc h1 h2 h3
theorem rc_cases {q c : Nat} (h : q = 34 ∨ q = 39) (hc : c ∈ AC) :
    (∃ d, Builtin.Str.reprChar q c = [92, d] ∧ (if d = 110 then 10 else d) = c) ∨ (Builtin.Str.reprChar q c = [c] ∧ c ≠ 92 ∧ c ≠ q) := by
  by_cases h1 : c = q
  · exact .inl ⟨c, rc_esc (.inl h1), by rcases h with h | h <;> rw [if_neg (by omega)]⟩
  by_cases h2 : c = 92
  · exact .inl ⟨c, rc_esc (.inr h2), by rw [if_neg (by omega)]⟩
  by_cases h3 : c = 10
  · subst h3; exact .inl ⟨110, rc_nl h, rfl⟩
  · exact .inr ⟨rc_plain h hc h1 h2 h3, h2, h1⟩
theorem S_ne {a b : Nat} (h : a ≠ b) : S [a] ≠ S [b] := fun e => h (by have := S_inj e; simpa using this)
theorem chr_ne {a b : Nat} (h : a ≠ b) : (S [a] != S [b]) = true := bne_iff_ne.mpr (S_ne h)
theorem chr_nn {x : Str} : ¬ (x != x) = true := by simp
theorem chr_neq {a b : Nat} (h : a ≠ b) : ¬ (S [a] == S [b]) = true := fun e => S_ne h (beq_iff_eq.mp e)
theorem rc_pos (q c : Nat) : 1 ≤ (Builtin.Str.reprChar q c).length := by
  unfold Builtin.Str.reprChar
  simp only []
  repeat' split
  all_goals simp
theorem flatMap_le {f : Nat → List Nat} (h : ∀ c, 1 ≤ (f c).length) : ∀ l : List Nat, l.length ≤ (l.flatMap f).length
  | [] => by simp
  | c :: l => by have := flatMap_le h l; have := h c; simp only [List.flatMap_cons, List.length_append, List.length_cons]; omega
def LStr (m : Str → Option Value) (x : Str) (v : Str) : Prop := ∃ t, m x = some (.str v t)
def LInt (m : Str → Option Value) (x : Str) (i : Int) : Prop := ∃ t, m x = some (.int i t)
theorem itT {c P Q : Prop} [Decidable c] (h : c) (hp : P) : if c then P else Q := by rw [if_pos h]; exact hp
theorem itF {c P Q : Prop} [Decidable c] (h : ¬ c) (hq : Q) : if c then P else Q := by rw [if_neg h]; exact hq
end Vy
end
section
namespace Vy

/-- what is fixed while a frame runs -/
structure Gd (w : World) (A : Around) (env : Env) (g : Heap) (L : Addr) : Prop where
  X : (hd.heap_39 w.params).In g
  T : ∃ p loose mean mg mb, Top p loose mean mg mb g
  B : ∃ A₀ base outer, Below A₀ base outer g ∧ A.frames = some (env :: outer)
  fr : env.frame = some L
  fn : env.scope.kind = .function

/-- an object of the ledger changed -/
def put (d : Addr) (o' : Obj) (news : List (Addr × Obj)) : List (Addr × Obj) := news.map fun p => if p.1 = d then (d, o') else p
theorem put_self {d : Addr} {o o' : Obj} {news : List (Addr × Obj)} (h : (d, o) ∈ news) : (d, o') ∈ put d o' news := by
  unfold put; exact List.mem_map.mpr ⟨_, h, by simp⟩
theorem put_ne {d a : Addr} {o o' : Obj} {news : List (Addr × Obj)} (h : (a, o) ∈ news) (n : a ≠ d) : (a, o) ∈ put d o' news := by
  unfold put; exact List.mem_map.mpr ⟨_, h, by simp [n]⟩
theorem put_cases {d : Addr} {o' : Obj} {news : List (Addr × Obj)} {p : Addr × Obj} (h : p ∈ put d o' news) : p = (d, o') ∨ (p ∈ news ∧ p.1 ≠ d) := by
  unfold put at h
  obtain ⟨q, hq, e⟩ := List.mem_map.mp h
  by_cases c : q.1 = d
  · rw [if_pos c] at e; exact .inl e.symm
  · rw [if_neg c] at e; subst e; exact .inr ⟨hq, c⟩
theorem upd_put {g h h' : Heap} {L d : Addr} {m : Str → Option Value} {news : List (Addr × Obj)} {o o' : Obj}
    (F : Fr g L h m) (N : News g L h news) (hm : (d, o) ∈ news) (hs : Heap.SameBut d h h') (ho : h'.get? d = some o') :
    Fr g L h' m ∧ News g L h' (put d o' news) := by
  have D := N _ hm
  refine ⟨F.change hs D.2.1 D.2.2, fun p hp => ?_⟩
  rcases put_cases hp with rfl | ⟨hp, hn⟩
  · exact ⟨ho, D.2⟩
  · exact ⟨(hs.2 p.1 hn).trans (N p hp).1, (N p hp).2⟩

section
variable {prog : Program} {w : World} {A : Around} {E : Value → Shared → Prop} {s : Shared} {env : Env} {g : Heap} {L : Addr} {m : Str → Option Value} {news : List (Addr × Obj)} {R : Result → Shared → Prop}

theorem enter {name qual : Str} {params : Arguments} {body : List Stmt} {scope : Scope} {cl : List (Str × Addr)} {dV kV doc pm cdv ct oc : Value} {an od : Option Addr} {osl : Array (Option Value)} {f : Addr} {args : Args} {binds : List (Str × Value)}
    (G : Gd w A env g L) (F : Fr g L s.heap m) (N : News g L s.heap news)
    (ho : (hd.heap_39 w.params).lookup f = some ⟨oc, od, .func (fnX name qual params body scope cl dV kV doc pm an cdv ct), osl⟩) (hcd : codeIn (hd.heap_39 w.params) cdv qual = true)
    (hroom : A.depth < recursionLimit)
    (hbind : BindsTo s (fnX name qual params body scope cl dV kV doc pm an cdv ct) args binds) (hloc : ∀ y ∈ binds, scope.names.lookup y.1 = some .local)
    (h : ∀ g' L' h₁, Gd w (A.deeper (envX qual scope L' f cdv cl)) (envX qual scope L' f cdv cl) g' L' → (∀ b o, g.get? b = some o → g'.get? b = some o) →
      Fr g' L' h₁ (fun y => binds.reverse.lookup y) → News g' L' h₁ news → (∀ p ∈ news, p.1 < L') →
      wpAny (model prog w) (A.deeper (envX qual scope L' f cdv cl)) (execs body (envX qual scope L' f cdv cl))
        (fun fl s' => LeaveK g L m g' R (match fl with | .ret v => v | _ => .none) s')
        (fun e s' => wpAny (model prog w) (A.deeper (envX qual scope L' f cdv cl)) (leaving (envX qual scope L' f cdv cl) e) (fun _ s'' => R (.error e) s'') (fun e' s'' => R (.error e') s'') s')
        { s with heap := h₁, toks := s.toks + binds.length })
    (hcell : ∀ x ∈ scope.names, x.2 ≠ .cell) (hco : scope.isCoroutine = false) (hgen : scope.isGenerator = false) (hk : scope.kind = .function) :
    codeAny (model prog w) A (.call (.ref f) args) R s := by
  obtain ⟨X, ⟨p, loose, mean, mg, mb, T⟩, ⟨A₀, base, outer, B, hA⟩, hf, hkk⟩ := G
  refine callX_plain B F N T.nolimit hA hf hkk ((X.keeps F.keep) _ _ ho) rfl (codeRec_of (X.keeps F.keep) hcd) hroom hbind hloc (fun g' L' h₁ FG F' N' B' st l => ?_) hcell hco hgen hk
  exact h g' L' h₁ ⟨X.keeps st, ⟨p, loose, mean, mg, mb, T.keeps st⟩, ⟨A, base, env :: outer, B', Around.frames_deeper hA⟩, rfl, hk⟩ st F' N' l

def NoE : Value → Shared → Prop := fun _ _ => False
theorem enterN {name qual : Str} {params : Arguments} {body : List Stmt} {scope : Scope} {cl : List (Str × Addr)} {dV kV doc pm cdv ct oc : Value} {an od : Option Addr} {osl : Array (Option Value)} {f : Addr} {args : Args} {binds : List (Str × Value)}
    (G : Gd w A env g L) (F : Fr g L s.heap m) (N : News g L s.heap news)
    (ho : (hd.heap_39 w.params).lookup f = some ⟨oc, od, .func (fnX name qual params body scope cl dV kV doc pm an cdv ct), osl⟩) (hcd : codeIn (hd.heap_39 w.params) cdv qual = true)
    (hroom : A.depth < recursionLimit)
    (hbind : BindsTo s (fnX name qual params body scope cl dV kV doc pm an cdv ct) args binds) (hloc : ∀ y ∈ binds, scope.names.lookup y.1 = some .local)
    (h : ∀ g' L' h₁, Gd w (A.deeper (envX qual scope L' f cdv cl)) (envX qual scope L' f cdv cl) g' L' → (∀ b o, g.get? b = some o → g'.get? b = some o) →
      Fr g' L' h₁ (fun y => binds.reverse.lookup y) → News g' L' h₁ news → (∀ p ∈ news, p.1 < L') →
      wpAny (model prog w) (A.deeper (envX qual scope L' f cdv cl)) (execs body (envX qual scope L' f cdv cl))
        (fun fl s' => LeaveK g L m g' R (match fl with | .ret v => v | _ => .none) s') NoE
        { s with heap := h₁, toks := s.toks + binds.length })
    (hcell : ∀ x ∈ scope.names, x.2 ≠ .cell) (hco : scope.isCoroutine = false) (hgen : scope.isGenerator = false) (hk : scope.kind = .function) :
    codeAny (model prog w) A (.call (.ref f) args) R s :=
  enter G F N ho hcd hroom hbind hloc (fun g' L' h₁ G' k F' N' l => wpAny_mono (h g' L' h₁ G' k F' N' l) (fun _ _ x => x) fun _ _ x => x.elim) hcell hco hgen hk

theorem nrm {α : Type} {M : Model} {t : Sem α} {Q : α → Shared → Prop} {h : Heap} {gn : Array GenState} {dr : Drawn} {os : OsState} (e1 : s.heap = h) (e2 : s.gens = gn) (e3 : s.drawn = dr) (e4 : s.os = os)
    (H : ∀ tk, wpAny M A t Q E ⟨h, gn, dr, tk, os⟩) : wpAny M A t Q E s := by
  obtain ⟨_, _, _, tk, _⟩ := s
  subst e1 e2 e3 e4
  exact H tk
theorem ml_hit {x : Str} {v : Value} {m : Str → Option Value} : (fun y => if y = x then some v else m y) x = some v := if_pos rfl
theorem ml_miss {x y : Str} {v : Value} {m : Str → Option Value} {r : Option Value} (h : m y = r) (n : y ≠ x) : (fun z => if z = x then some v else m z) y = r := (if_neg n).trans h
theorem r_newTuple {vs : List Value} {Q : Value → Shared → Prop} (F : Fr g L s.heap m) (N : News g L s.heap news) (hsz : vs.length ≤ sizeLine)
    (h : ∀ a h', Fr g L h' m → News g L h' ((a, ⟨.type "tuple", none, .seq vs.toArray 0, #[]⟩) :: news) → (∀ p ∈ news, p.1 < a) → Q (.ref a) { s with heap := h' }) :
    wpAny (model prog w) A (newTuple vs) Q E s := newTuple_N F N (fun h' F' N' => h _ h' F' N' fun p hp => Heap.lt_size (N p hp).1) hsz
theorem item_S {x : Str} {k c : Nat} (hc : x.cps.toList[k]? = some c) : Txt.item x k = S [c] ∧ k < x.length := by
  have hl : k < x.cps.toList.length := by
    rcases Nat.lt_or_ge k x.cps.toList.length with h | h
    · exact h
    · rw [List.getElem?_eq_none h] at hc; cases hc
  have hl' : k < x.length := by simpa [Str.length] using hl
  refine ⟨?_, hl'⟩
  have e : seqIndex? (k : Int) x.length = some k := by
    unfold seqIndex?
    have : ¬ ((k : Int) < 0) := by omega
    simp only [this, if_false]
    rw [if_pos (by simp; omega)]
    simp
  unfold Txt.item Txt.charAt
  rw [e]
  show (⟨#[(x.cps[k]?).getD 0]⟩ : Str) = _
  rw [← Array.getElem?_toList, hc]
  rfl
theorem r_chr {value slice : Expr} {x : Str} {t u : Tok} {k c : Nat} {Q : Value → Shared → Prop} (hc : x.cps.toList[k]? = some c) (hk : k < 1000000)
    (h : Q (.str (S [c]) s.toks) { s with toks := s.toks + 1 })
    (hs : subscripted slice false (.str x t) (.int (k : Nat) u) = operate [.str x t, .int (k : Nat) u] (getItem (.str x t) (.int (k : Nat) u)) := by with_unfolding_all rfl)
    (ht : ∀ r, letTemporaryGo value (.str x t) r = pure () := by intro _; with_unfolding_all rfl) :
    wpAny (model prog w) A (subscriptTail value slice (.str x t) (.int (k : Nat) u)) Q E s := by
  obtain ⟨e, hl⟩ := item_S hc
  refine item_str (by unfold fitsSsize; simp; omega) (by omega) (by omega) (fun _ => ?_) hs ht
  rw [e]; exact h
theorem r_add {a b c : Int} {t u : Tok} {Q : Value → Shared → Prop} (e : a + b = c) (h : Q (.int c s.toks) { s with toks := s.toks + 1 }) : wpAny (model prog w) A (binaryOp .Add (.int a t) (.int b u)) Q E s := PyProof.Rows.add_int (e ▸ h)
theorem r_iadd {a b c : Int} {t u : Tok} {Q : Value → Shared → Prop} (e : a + b = c) (h : Q (.int c s.toks) { s with toks := s.toks + 1 }) : wpAny (model prog w) A (inplaceOp .Add (.int a t) (.int b u)) Q E s := PyProof.Rows.iadd_int (e ▸ h)
theorem r_sub {a b c : Int} {t u : Tok} {Q : Value → Shared → Prop} (e : a - b = c) (h : Q (.int c s.toks) { s with toks := s.toks + 1 }) : wpAny (model prog w) A (binaryOp .Sub (.int a t) (.int b u)) Q E s := PyProof.Rows.sub_int (e ▸ h)
theorem r_addS {x y z : List Nat} {t u : Tok} {Q : Value → Shared → Prop} (e : x ++ y = z) (hz : z.length ≤ 1000000) (h : ∀ t' k, Q (.str (S z) t') { s with toks := k }) : wpAny (model prog w) A (binaryOp .Add (.str (S x) t) (.str (S y) u)) Q E s :=
  SBL.add (fun t' k _ => by rw [S_append, e]; exact h t' k) (by rw [S_len, S_len, sizeLine_eq]; have := congrArg List.length e; simp at this; omega)
theorem r_lenS {x : Str} {t : Tok} {Q : Value → Shared → Prop} (hn : x.length ≤ 10000000) (h : ∀ t' k, Q (.int x.length t') { s with toks := k }) : wpAny (model prog w) A (call (.builtin "len") [.str x t]) Q E s :=
  PySem.P.len_str (by omega) (h _ _)
theorem r_slice {value lo hi : Expr} {ps : Pos} {x : Str} {i j : Nat} {z : List Nat} {t ui uj tk : Tok} {h0 : Heap} {gn : Array GenState} {dr : Drawn} {os : OsState} {Q : Value → Shared → Prop} (F : Fr g L h0 m) (N : News g L h0 news) (hij : i ≤ j) (hj : j ≤ x.cps.toList.length) (hz : x.length ≤ 10000000)
    (e : (x.cps.toList.drop i).take (j - i) = z) (h : ∀ h' t' k, Fr g L h' m → News g L h' news → Q (.str (S z) t') ⟨h', gn, dr, k, os⟩)
    (hs : subscripted (.Slice (some lo) (some hi) none ps) false (.str x t) (.ref h0.objs.size) = operate [.ref h0.objs.size, .str x t] (getItem (.str x t) (.ref h0.objs.size)) := by with_unfolding_all rfl)
    (ht : ∀ r, letTemporaryGo value (.str x t) r = pure () := by intro _; with_unfolding_all rfl) :
    wpAny (model prog w) A (subscriptTail value (.Slice (some lo) (some hi) none ps) (.str x t) (.ref h0.objs.size)) Q E ⟨h0.push { cls := .type "slice", data := .fields #[.int (i : Nat) ui, .int (j : Nat) uj, .none] }, gn, dr, tk, os⟩ := by
  refine slice_strN_ss (s := ⟨h0, gn, dr, tk, os⟩) F N (fun h' t' k F' N' => ?_) hs ht (by rw [sizeLine_eq]; omega)
  have := slice_closes (x := x) (i := (i : Int)) (j := (j : Int)) (by omega)
  rw [beq_iff_eq.mp this, show ((j : Int) - (i : Int)).toNat = j - i from by omega, Int.toNat_natCast, e]
  exact h h' t' k F' N'
theorem r_inS {c : Nat} {x : Str} {t u : Tok} {b : Bool} {Q : Value → Shared → Prop} (e : decide (c ∈ x.cps.toList) = b) (h : Q (.bool b) s) : wpAny (model prog w) A (compareOp .In (.str (S [c]) u) (.str x t)) Q E s := by
  first | with_reducible refine PyProof.Rows.in_str ?_ | refine PyProof.Rows.in_str ?_
  have := StrLaws.found_one x c
  show Q (.bool (!(Builtin.Str.occurrences x ⟨#[c]⟩ 0 x.length 1).isEmpty)) s
  rw [this, e]; exact h
theorem r_newList {vs : List Value} {Q : Value → Shared → Prop} (F : Fr g L s.heap m) (N : News g L s.heap news) (hsz : vs.length ≤ sizeLine)
    (h : ∀ a h', Fr g L h' m → News g L h' ((a, listOf (List.toArray vs) 0) :: news) → (∀ p ∈ news, p.1 < a) → Q (.ref a) { s with heap := h' }) :
    wpAny (model prog w) A (newList vs) Q E s := newList_K F N (fun a h' F' N' l => h a h' F' N' l) hsz
theorem r_append {D : Addr} {its : Array Value} {n : Nat} {x : Value} {Q : Value → Shared → Prop} (F : Fr g L s.heap m) (N : News g L s.heap news) (hm : (D, listOf its n) ∈ news)
    (hsz : its.size ≤ sizeLine) (h : ∀ h', Fr g L h' m → News g L h' (put D (listOf (its.push x) (n + 1)) news) → Q .none { s with heap := h' }) :
    wpAny (model prog w) A (call (.builtin "list.append") [.ref D, x]) Q E s :=
  append_at (hsz := hsz) (N _ hm).1 fun h' hs ho => have z := upd_put F N hm hs ho; h h' z.1 z.2
theorem r_len {l : Addr} {its : Array Value} {n : Nat} {Q : Value → Shared → Prop} (N : News g L s.heap news) (hm : (l, listOf its n) ∈ news) (hsz : its.size ≤ sizeLine)
    (h : Q (.int its.size (s.toks + 1)) { s with toks := s.toks + 1 + 1 }) : wpAny (model prog w) A (call (.builtin "len") [.ref l]) Q E s :=
  PyProof.Rows.len_list ⟨_, (N _ hm).1, rfl, n, rfl⟩ (by rw [sizeLine_eq] at hsz; omega) h
end
end Vy
end
section
namespace Vy
section
variable {prog : Program} {w : World} {A : Around} {E : Value → Shared → Prop} {s : Shared} {env : Env} {g : Heap} {L : Addr} {m : Str → Option Value} {news : List (Addr × Obj)} {R : Result → Shared → Prop}
theorem kept_spec (G : Gd w A env g L) (F : Fr g L s.heap m) (N : News g L s.heap news) (hd : A.depth + 1 < recursionLimit)
    {l : Addr} {its : Array Value} {n : Nat} {row : Value} (hm : (l, listOf its n) ∈ news) (hsz : its.size ≤ 1000)
    (h : ∀ t h' tk, Fr g L h' m → News g L h' (put l (listOf (its.push row) (n + 1)) news) → R (.ok (.ret (.int its.size t))) { s with heap := h', toks := tk }) :
    codeAny (model prog w) A (.call (.ref 476) ⟨[row, .ref l], []⟩) R s := by
  obtain ⟨h', gn, dr, tk0, os0⟩ := s
  refine enter G F N (by k_is) (by k_is) (by omega) (binds := [("row", row), ("rows", .ref l)]) (BindsTo.of_eq rfl) (locs rfl) (fun g' L' h' G' keep F N lt => ?_) (by decide) rfl rfl rfl
  have ⟨X, ⟨p, loose, mean, mg, mb, T⟩, _, _, _⟩ := G'
  repeat kp_kind "s"
  first | with_reducible refine listMethod_K N hm PySem.F.slot_list_append PySem.F.type_list_append ?_ | refine listMethod_K N hm PySem.F.slot_list_append PySem.F.type_list_append ?_
  repeat kp_kind "s"
  refine r_append F N hm (by rw [sizeLine_eq]; omega) (fun h' F N => ?_)
  have hm' := put_self (o' := listOf (its.push row) (n + 1)) hm
  repeat kp_kind "s"
  first | with_reducible refine r_len N hm' (by rw [sizeLine_eq, Array.size_push]; omega) ?_ | refine r_len N hm' (by rw [sizeLine_eq, Array.size_push]; omega) ?_
  repeat kp_kind "s"
  first | with_reducible refine sub_int ?_ | refine sub_int ?_
  kp_kind "k"
  rw [show ((its.push row).size : Int) - 1 = its.size from by rw [Array.size_push]; omega]
  exact h _ _ _ F N
end
end Vy
end
section
namespace Vy
/-! the trees that are told, the rows that the reader keeps, what both mean -/
inductive Tr where
  | word (x : List Nat)
  | name (k : Nat)
  | seq2 (a b : Tr) | seq3 (a b c : Tr)
  | alt2 (a b : Tr) | alt3 (a b c : Tr)
  | neg (a : Tr) | look (a : Tr)
def Tr.size : Tr → Nat
  | .word _ => 1
  | .name _ => 1
  | .seq2 a b => a.size + b.size + 1
  | .seq3 a b c => a.size + b.size + c.size + 1
  | .alt2 a b => a.size + b.size + 1
  | .alt3 a b c => a.size + b.size + c.size + 1
  | .neg a => a.size + 1
  | .look a => a.size + 1
theorem Tr.size_pos (t : Tr) : 1 ≤ t.size := by cases t <;> simp only [Tr.size] <;> omega
/-- items of a choice: none stands for the stroke -/
def Tr.inner : Tr → List (Option Tr)
  | .seq2 a b => [some a, some b]
  | .seq3 a b c => [some a, some b, some c]
  | .alt2 a b => [some a, none, some b]
  | .alt3 a b c => [some a, none, some b, none, some c]
  | t => [some t]
def render : Tr → List Nat
  | .word x => reprW x
  | .name k => [110, 48 + k]
  | .seq2 a b => 40 :: (render a ++ 32 :: (render b ++ [41]))
  | .seq3 a b c => 40 :: (render a ++ 32 :: (render b ++ 32 :: (render c ++ [41])))
  | .alt2 a b => 40 :: (render a ++ 32 :: 47 :: 32 :: (render b ++ [41]))
  | .alt3 a b c => 40 :: (render a ++ 32 :: 47 :: 32 :: (render b ++ 32 :: 47 :: 32 :: (render c ++ [41])))
  | .neg a => 33 :: render a
  | .look a => 38 :: render a
def itemText : Option Tr → List Nat
  | some t => render t
  | none => [47]
def itemsText : List (Option Tr) → List Nat
  | [] => []
  | [i] => itemText i
  | i :: j :: r => itemText i ++ 32 :: itemsText (j :: r)
def Tr.bare : Tr → Bool
  | .seq2 .. => true | .seq3 .. => true | .alt2 .. => true | .alt3 .. => true
  | _ => false
def Tr.csize (t : Tr) : Nat := if t.bare then t.size - 1 else t.size
theorem render_bare {t : Tr} (h : t.bare = true) : render t = 40 :: (itemsText t.inner ++ [41]) := by
  cases t <;> simp [Tr.bare, render, Tr.inner, itemsText, itemText] at h ⊢
theorem inner_not_bare {t : Tr} (h : t.bare = false) : t.inner = [some t] := by cases t <;> simp [Tr.bare, Tr.inner] at h ⊢

def wordAt (txt x : List Nat) (p : Nat) : Option Nat := if (txt.drop p).take x.length = x then some (p + x.length) else none
def semT (txt : List Nat) (nm : Nat → Nat → Option Nat) : Tr → Nat → Option Nat
  | .word x, p => wordAt txt x p
  | .name k, p => nm k p
  | .seq2 a b, p => (semT txt nm a p).bind (semT txt nm b)
  | .seq3 a b c, p => ((semT txt nm a p).bind (semT txt nm b)).bind (semT txt nm c)
  | .alt2 a b, p => (semT txt nm a p).or (semT txt nm b p)
  | .alt3 a b c, p => ((semT txt nm a p).or (semT txt nm b p)).or (semT txt nm c p)
  | .neg a, p => if (semT txt nm a p).isSome then none else some p
  | .look a, p => if (semT txt nm a p).isSome then some p else none
def Tr.names : Tr → List Nat
  | .word _ => []
  | .name k => [k]
  | .seq2 a b => a.names ++ b.names
  | .seq3 a b c => a.names ++ b.names ++ c.names
  | .alt2 a b => a.names ++ b.names
  | .alt3 a b c => a.names ++ b.names ++ c.names
  | .neg a => a.names
  | .look a => a.names
def Tr.words : Tr → List (List Nat)
  | .word x => [x]
  | .name _ => []
  | .seq2 a b => a.words ++ b.words
  | .seq3 a b c => a.words ++ b.words ++ c.words
  | .alt2 a b => a.words ++ b.words
  | .alt3 a b c => a.words ++ b.words ++ c.words
  | .neg a => a.words
  | .look a => a.words

inductive Row where
  | word (x : List Nat) | all (ks : List Nat) | any (ks : List Nat) | neg (k : Nat) | look (k : Nat)
def Row.kids : Row → List Nat
  | .word _ => []
  | .all ks => ks
  | .any ks => ks
  | .neg k => [k]
  | .look k => [k]
def allSem (sm : Nat → Nat → Option Nat) : List Nat → Nat → Option Nat
  | [], p => some p
  | k :: ks, p => (sm k p).bind (allSem sm ks)
def anySem (sm : Nat → Nat → Option Nat) : List Nat → Nat → Option Nat
  | [], _ => none
  | k :: ks, p => (sm k p).or (anySem sm ks p)
def rowSem (txt : List Nat) (sm : Nat → Nat → Option Nat) : Row → Nat → Option Nat
  | .word x, p => wordAt txt x p
  | .all ks, p => allSem sm ks p
  | .any ks, p => anySem sm ks p
  | .neg k, p => if (sm k p).isSome then none else some p
  | .look k, p => if (sm k p).isSome then some p else none
def getF (l : List (Nat → Option Nat)) (k p : Nat) : Option Nat := (l.getD k (fun _ => none)) p
def semsFrom (txt : List Nat) (acc : List (Nat → Option Nat)) (rows : List Row) : List (Nat → Option Nat) :=
  rows.foldl (fun acc r => acc ++ [rowSem txt (getF acc) r]) acc
def sems (txt : List Nat) (rows : List Row) : List (Nat → Option Nat) := semsFrom txt [] rows
def rs (txt : List Nat) (rows : List Row) (k p : Nat) : Option Nat := getF (sems txt rows) k p
theorem sems_append (txt : List Nat) (a b : List Row) : sems txt (a ++ b) = semsFrom txt (sems txt a) b := by
  unfold sems semsFrom; rw [List.foldl_append]
theorem semsFrom_pre (txt : List Nat) : ∀ (b : List Row) (acc : List (Nat → Option Nat)), ∃ more, semsFrom txt acc b = acc ++ more ∧ more.length = b.length
  | [], acc => ⟨[], by simp [semsFrom], rfl⟩
  | r :: b, acc => by
    obtain ⟨more, e, l⟩ := semsFrom_pre txt b (acc ++ [rowSem txt (getF acc) r])
    refine ⟨rowSem txt (getF acc) r :: more, ?_, by simp [l]⟩
    show semsFrom txt (acc ++ [rowSem txt (getF acc) r]) b = _
    rw [e]; simp
theorem sems_length (txt : List Nat) (rows : List Row) : (sems txt rows).length = rows.length := by
  obtain ⟨more, e, l⟩ := semsFrom_pre txt rows []
  unfold sems; rw [e]; simpa using l
theorem getF_append {a b : List (Nat → Option Nat)} {k p : Nat} (h : k < a.length) : getF (a ++ b) k p = getF a k p := by
  unfold getF; rw [List.getD_eq_getElem?_getD, List.getD_eq_getElem?_getD, List.getElem?_append_left h]
theorem rs_append {txt : List Nat} {a b : List Row} {k p : Nat} (h : k < a.length) : rs txt (a ++ b) k p = rs txt a k p := by
  unfold rs; rw [sems_append]
  obtain ⟨more, e, _⟩ := semsFrom_pre txt b (sems txt a)
  rw [e, getF_append (by rw [sems_length]; exact h)]
theorem rs_last {txt : List Nat} {a : List Row} {r : Row} {p : Nat} : rs txt (a ++ [r]) a.length p = rowSem txt (rs txt a) r p := by
  unfold rs; rw [sems_append]
  show getF (sems txt a ++ [rowSem txt (getF (sems txt a)) r]) a.length p = _
  unfold getF
  rw [List.getD_eq_getElem?_getD, List.getElem?_append_right (by rw [sems_length]; exact Nat.le_refl _), sems_length, Nat.sub_self]
  rfl
def WF (rows : List Row) : Prop := ∀ (i : Nat) (r : Row), rows[i]? = some r → ∀ k ∈ r.kids, k < i
theorem WF.snoc {rows : List Row} {r : Row} (h : WF rows) (hr : ∀ k ∈ r.kids, k < rows.length) : WF (rows ++ [r]) := by
  intro i q e k hk
  rcases Nat.lt_trichotomy i rows.length with l | l | l
  · rw [List.getElem?_append_left l] at e; exact h i q e k hk
  · subst l; rw [List.getElem?_append_right (Nat.le_refl _), Nat.sub_self] at e; cases e; exact hr k hk
  · rw [List.getElem?_eq_none (by simp; omega)] at e; cases e
/-- row r means what t means -/
def Den (txt : List Nat) (nm : Nat → Nat → Option Nat) (rows : List Row) (r : Nat) (t : Tr) : Prop := r < rows.length ∧ ∀ p, rs txt rows r p = semT txt nm t p
theorem Den.more {txt : List Nat} {nm : Nat → Nat → Option Nat} {rows : List Row} {r : Nat} {t : Tr} (h : Den txt nm rows r t) (more : List Row) : Den txt nm (rows ++ more) r t :=
  ⟨by have := h.1; simp; omega, fun p => (rs_append h.1).trans (h.2 p)⟩

/-! the ways of a choice -/
def groups : List (Option Tr) → List (List Tr)
  | [] => [[]]
  | none :: r => [] :: groups r
  | some t :: r => match groups r with
    | g :: gs => (t :: g) :: gs
    | [] => [[t]]
def seqSem (txt : List Nat) (nm : Nat → Nat → Option Nat) : List Tr → Nat → Option Nat
  | [], p => some p
  | t :: ts, p => (semT txt nm t p).bind (seqSem txt nm ts)
def altSem (txt : List Nat) (nm : Nat → Nat → Option Nat) : List (List Tr) → Nat → Option Nat
  | [], _ => none
  | g :: gs, p => (seqSem txt nm g p).or (altSem txt nm gs p)
theorem inner_sem (txt : List Nat) (nm : Nat → Nat → Option Nat) (t : Tr) (p : Nat) : altSem txt nm (groups t.inner) p = semT txt nm t p := by
  have bn : ∀ (x : Option Nat), x.bind some = x := fun x => by cases x <;> rfl
  have e1 : ∀ t : Tr, (fun q => (semT txt nm t q).bind (seqSem txt nm [])) = semT txt nm t := fun t => by funext q; exact bn _
  cases t <;> simp [Tr.inner, groups, altSem, seqSem, semT, Option.or_none, Option.or_assoc, Option.bind_assoc] <;> (try rfl)
end Vy
end
section
open PyProof.V
namespace Vy
abbrev tupO (vs : List Value) : Obj := ⟨.type "tuple", none, .seq vs.toArray 0, #[]⟩
inductive All2 {α β : Type} (P : α → β → Prop) : List α → List β → Prop
  | nil : All2 P [] []
  | cons {a b as bs} : P a b → All2 P as bs → All2 P (a :: as) (b :: bs)
theorem All2.length {α β : Type} {P : α → β → Prop} {as : List α} {bs : List β} (h : All2 P as bs) : as.length = bs.length := by
  induction h with
  | nil => rfl
  | cons _ _ ih => simp [ih]
theorem All2.mono {α β : Type} {P Q : α → β → Prop} {as : List α} {bs : List β} (h : All2 P as bs) (k : ∀ a b, P a b → Q a b) : All2 Q as bs := by
  induction h with
  | nil => exact .nil
  | cons p _ ih => exact .cons (k _ _ p) ih
theorem All2.monoM {α β : Type} {P Q : α → β → Prop} {as : List α} {bs : List β} (h : All2 P as bs) : (∀ a ∈ as, ∀ b, P a b → Q a b) → All2 Q as bs := by
  induction h with
  | nil => intro _; exact .nil
  | cons p _ ih => intro k; exact .cons (k _ (.head _) _ p) (ih fun a ha b q => k a (.tail _ ha) b q)
theorem All2.left {α β : Type} {P : α → β → Prop} {as : List α} {bs : List β} (h : All2 P as bs) : ∀ a ∈ as, ∃ b, P a b := by
  induction h with
  | nil => intro a h; cases h
  | cons p _ ih =>
    intro a h
    rcases List.mem_cons.mp h with rfl | h
    · exact ⟨_, p⟩
    · exact ih a h
theorem All2.snoc {α β : Type} {P : α → β → Prop} {as : List α} {bs : List β} {a : α} {b : β} (h : All2 P as bs) (p : P a b) : All2 P (as ++ [a]) (bs ++ [b]) := by
  induction h with
  | nil => exact .cons p .nil
  | cons q _ ih => exact .cons q ih
theorem All2.get {α β : Type} {P : α → β → Prop} {as : List α} {bs : List β} (h : All2 P as bs) : ∀ (i : Nat) (b : β), bs[i]? = some b → ∃ a, as[i]? = some a ∧ P a b := by
  induction h with
  | nil => intro i b e; simp at e
  | cons p _ ih =>
    intro i b e
    cases i with
    | zero => simp at e; subst e; exact ⟨_, by simp, p⟩
    | succ i => simp at e; obtain ⟨a, ha, q⟩ := ih i b e; exact ⟨a, by simpa using ha, q⟩
/-- objects that no loop's own stepping turns -/
def ord (o : Obj) : Prop := o.cls ≠ .type "list_iterator" ∧ o.cls ≠ .type "range_iterator" ∧ o.cls ≠ .type "tuple_iterator"
abbrev Led := List (Addr × Obj)
theorem ord_tup (vs : List Value) : ord (tupO vs) := ⟨by simp, by simp, by simp⟩
theorem ord_list (vs : Array Value) (n : Nat) : ord (listOf vs n) := ⟨by simp, by simp, by simp⟩
abbrev nI (k : Nat) : Int := (k : Int)
/-- a tuple that says a row; ex: the places that may be turned yet -/
def RowAt (news : List (Addr × Obj)) (ex : List Addr) (v : Value) (r : Row) : Prop := ∃ a, v = .ref a ∧ a ∉ ex ∧ (match r with
  | .word x => ∃ t u, (a, tupO [.str "word" t, .str (S x) u]) ∈ news
  | .all ks => ∃ t b vs n, b ∉ ex ∧ (a, tupO [.str "all" t, .ref b]) ∈ news ∧ (b, listOf (List.toArray vs) n) ∈ news ∧ IntsAre vs (ks.map nI)
  | .any ks => ∃ t b vs n, b ∉ ex ∧ (a, tupO [.str "any" t, .ref b]) ∈ news ∧ (b, listOf (List.toArray vs) n) ∈ news ∧ IntsAre vs (ks.map nI)
  | .neg k => ∃ t u, (a, tupO [.str "not" t, .int (nI k) u]) ∈ news
  | .look k => ∃ t u, (a, tupO [.str "look" t, .int (nI k) u]) ∈ news)
theorem RowAt.monoO {news news' : List (Addr × Obj)} {ex : List Addr} {v : Value} {r : Row} (h : RowAt news ex v r) (k : ∀ p ∈ news, p.1 ∉ ex → ord p.2 → p ∈ news') : RowAt news' ex v r := by
  obtain ⟨a, rfl, ha, h⟩ := h
  refine ⟨a, rfl, ha, ?_⟩
  cases r with
  | word x => obtain ⟨t, u, m⟩ := h; exact ⟨t, u, k _ m ha (ord_tup _)⟩
  | all ks => obtain ⟨t, b, vs, n, hb, m1, m2, i⟩ := h; exact ⟨t, b, vs, n, hb, k _ m1 ha (ord_tup _), k _ m2 hb (ord_list _ _), i⟩
  | any ks => obtain ⟨t, b, vs, n, hb, m1, m2, i⟩ := h; exact ⟨t, b, vs, n, hb, k _ m1 ha (ord_tup _), k _ m2 hb (ord_list _ _), i⟩
  | neg x => obtain ⟨t, u, m⟩ := h; exact ⟨t, u, k _ m ha (ord_tup _)⟩
  | look x => obtain ⟨t, u, m⟩ := h; exact ⟨t, u, k _ m ha (ord_tup _)⟩
theorem RowAt.mono {news news' : List (Addr × Obj)} {ex : List Addr} {v : Value} {r : Row} (h : RowAt news ex v r) (k : ∀ p ∈ news, p.1 ∉ ex → p ∈ news') : RowAt news' ex v r := h.monoO fun p hp hn _ => k p hp hn
theorem RowAt.ex {news : List (Addr × Obj)} {ex ex' : List Addr} {v : Value} {r : Row} (h : RowAt news ex v r) (q : ∀ e ∈ ex', e ∈ ex ∨ ∀ p ∈ news, p.1 ≠ e) : RowAt news ex' v r := by
  have out : ∀ (a : Addr) (o : Obj), (a, o) ∈ news → a ∉ ex → a ∉ ex' := fun a o m n h => (q a h).elim n fun f => f _ m rfl
  obtain ⟨a, rfl, ha, h⟩ := h
  refine ⟨a, rfl, ?_, ?_⟩
  · cases r with
    | word x => obtain ⟨t, u, m⟩ := h; exact out _ _ m ha
    | all ks => obtain ⟨t, b, vs, n, hb, m1, m2, i⟩ := h; exact out _ _ m1 ha
    | any ks => obtain ⟨t, b, vs, n, hb, m1, m2, i⟩ := h; exact out _ _ m1 ha
    | neg x => obtain ⟨t, u, m⟩ := h; exact out _ _ m ha
    | look x => obtain ⟨t, u, m⟩ := h; exact out _ _ m ha
  · cases r with
    | word x => exact h
    | all ks => obtain ⟨t, b, vs, n, hb, m1, m2, i⟩ := h; exact ⟨t, b, vs, n, out _ _ m2 hb, m1, m2, i⟩
    | any ks => obtain ⟨t, b, vs, n, hb, m1, m2, i⟩ := h; exact ⟨t, b, vs, n, out _ _ m2 hb, m1, m2, i⟩
    | neg x => exact h
    | look x => exact h
def RSm : Row → Prop
  | .word x => x.length ≤ 100000
  | .all ks => ks.length ≤ 1000
  | .any ks => ks.length ≤ 1000
  | _ => True
/-- well founded, of small rows -/
def WFS (rows : List Row) : Prop := WF rows ∧ ∀ r ∈ rows, RSm r
theorem WFS.snoc {rows : List Row} {r : Row} (h : WFS rows) (hr : ∀ k ∈ r.kids, k < rows.length) (hs : RSm r) : WFS (rows ++ [r]) :=
  ⟨h.1.snoc hr, fun q hq => (List.mem_append.mp hq).elim (h.2 q) fun e => by rw [List.mem_singleton.mp e]; exact hs⟩
theorem reprW_ge (x : List Nat) : x.length ≤ (reprW x).length := by
  rw [reprW_eq]
  have key : ∀ (q : Nat) (x : List Nat), x.length ≤ (x.flatMap (Builtin.Str.reprChar q)).length := by
    intro q x
    induction x with
    | nil => exact Nat.le_refl _
    | cons c x ih =>
      have := rc_pos q c
      simp only [List.flatMap_cons, List.length_append, List.length_cons]
      omega
  have := key (qW x) x
  simp only [List.length_cons, List.length_append, List.length_nil]
  omega
def RowsAt (news : List (Addr × Obj)) (ex : List Addr) (l : Addr) (rows : List Row) : Prop := l ∈ ex ∧ ∃ vs n, (l, listOf (List.toArray vs) n) ∈ news ∧ All2 (RowAt news ex) vs rows ∧ WFS rows
theorem RowsAt.monoO {news news' : List (Addr × Obj)} {ex : List Addr} {l : Addr} {rows : List Row} (h : RowsAt news ex l rows) (k : ∀ p ∈ news, p.1 ∉ ex ∨ p.1 = l → ord p.2 → p ∈ news') : RowsAt news' ex l rows := by
  obtain ⟨hl, vs, n, m, al, wf⟩ := h
  exact ⟨hl, vs, n, k _ m (.inr rfl) (ord_list _ _), al.mono fun a b q => q.monoO fun p hp hn ho => k p hp (.inl hn) ho, wf⟩
theorem RowsAt.mono {news news' : List (Addr × Obj)} {ex : List Addr} {l : Addr} {rows : List Row} (h : RowsAt news ex l rows) (k : ∀ p ∈ news, p.1 ∉ ex ∨ p.1 = l → p ∈ news') : RowsAt news' ex l rows := h.monoO fun p hp hq _ => k p hp hq
theorem RowsAt.sup {news news' : List (Addr × Obj)} {ex : List Addr} {l : Addr} {rows : List Row} (h : RowsAt news ex l rows) (k : ∀ p ∈ news, p ∈ news') : RowsAt news' ex l rows := h.mono fun p hp _ => k p hp
theorem RowsAt.ex {news : List (Addr × Obj)} {ex ex' : List Addr} {l : Addr} {rows : List Row} (h : RowsAt news ex l rows) (hl : l ∈ ex') (q : ∀ e ∈ ex', e ∈ ex ∨ ∀ p ∈ news, p.1 ≠ e) : RowsAt news ex' l rows := by
  obtain ⟨_, vs, n, m, al, wf⟩ := h
  exact ⟨hl, vs, n, m, al.mono fun a b r => r.ex q, wf⟩
/-- one more row is kept -/
theorem RowsAt.kept {news : List (Addr × Obj)} {ex : List Addr} {l : Addr} {rows : List Row} {vs : List Value} {n : Nat} {v : Value} {r : Row} (hl : l ∈ ex)
    (h : All2 (RowAt news ex) vs rows) (w : WFS rows) (m : (l, listOf (List.toArray vs) n) ∈ news) (hv : RowAt news ex v r) (hr : ∀ k ∈ r.kids, k < rows.length) (hs : RSm r) :
    RowsAt (put l (listOf ((List.toArray vs).push v) (n + 1)) news) ex l (rows ++ [r]) := by
  have k : ∀ p ∈ news, p.1 ∉ ex → p ∈ put l (listOf ((List.toArray vs).push v) (n + 1)) news := fun p hp hn => put_ne hp fun e => hn (e ▸ hl)
  refine ⟨hl, vs ++ [v], n + 1, ?_, (h.mono fun a b q => q.mono k).snoc (hv.mono k), w.snoc hr hs⟩
  have := put_self (o' := listOf ((List.toArray vs).push v) (n + 1)) m
  simpa using this
/-- the places of ex are in the ledger -/
def InL (ex : List Addr) (news : List (Addr × Obj)) : Prop := ∀ e ∈ ex, ∃ o, (e, o) ∈ news
theorem InL.sup {ex : List Addr} {news news' : List (Addr × Obj)} (h : InL ex news) (k : ∀ p ∈ news, p ∈ news') : InL ex news' := fun e he => let ⟨o, m⟩ := h e he; ⟨o, k _ m⟩
theorem InL.sub {ex : List Addr} {news news' : List (Addr × Obj)} {l : Addr} {o : Obj} (h : InL ex news) (k : ∀ p ∈ news, p.1 ≠ l → p ∈ news') (m : (l, o) ∈ news') : InL ex news' := fun e he => by
  by_cases q : e = l
  · exact ⟨o, q ▸ m⟩
  · obtain ⟨o', m'⟩ := h e he; exact ⟨o', k _ m' q⟩
theorem InL.out {ex : List Addr} {news : List (Addr × Obj)} {a : Addr} (h : InL ex news) (k : ∀ p ∈ news, p.1 < a) : a ∉ ex := fun he => let ⟨_, m⟩ := h a he; Nat.lt_irrefl _ (k _ m)
/-- the names' homes -/
def HomesAt (prog : Program) (w : World) (news : List (Addr × Obj)) (d : Addr) (D : List (PyData × PyData)) : Prop :=
  ∃ o kvs, (d, o) ∈ news ∧ o.IsDictOf (strKind prog w) kvs ∧ FlatPairs PyData.str kvs D ∧ (d == sysModules) = false
theorem HomesAt.mono {prog : Program} {w : World} {news news' : List (Addr × Obj)} {d l : Addr} {D : List (PyData × PyData)} (h : HomesAt prog w news d D) (hd : d ≠ l) (k : ∀ p ∈ news, p.1 ≠ l → p ∈ news') : HomesAt prog w news' d D := by
  obtain ⟨o, kvs, m, r⟩ := h; exact ⟨o, kvs, k _ m hd, r⟩
def HomesOk (txt : List Nat) (nm : Nat → Nat → Option Nat) (rows : List Row) (D : List (PyData × PyData)) (ks : List Nat) : Prop :=
  ∀ k ∈ ks, k < 10 ∧ ∃ r, PySem.Spec.lookup (.str (S [110, 48 + k])) D = some (.int (nI r)) ∧ Den txt nm rows r (.name k)
theorem HomesOk.more {txt : List Nat} {nm : Nat → Nat → Option Nat} {rows : List Row} {D : List (PyData × PyData)} {ks : List Nat} (h : HomesOk txt nm rows D ks) (more : List Row) : HomesOk txt nm (rows ++ more) D ks :=
  fun k hk => let ⟨a, r, e, d⟩ := h k hk; ⟨a, r, e, d.more more⟩
theorem HomesOk.sub {txt : List Nat} {nm : Nat → Nat → Option Nat} {rows : List Row} {D : List (PyData × PyData)} {ks ks' : List Nat} (h : HomesOk txt nm rows D ks) (k : ∀ x ∈ ks', x ∈ ks) : HomesOk txt nm rows D ks' := fun x hx => h x (k x hx)

/-- what a reading hands back: number and place -/
def ReadK (w : World) (txt : List Nat) (nm : Nat → Nat → Option Nat) (g : Heap) (L : Addr) (m : Str → Option Value) (news : List (Addr × Obj)) (ex : List Addr) (l : Addr) (rows : List Row) (t : Tr) (stop : Nat) (s : Shared) (R : Result → Shared → Prop) : Prop :=
  ∀ a r t1 t2 more h' tk news', Fr g L h' m → News g L h' news' → (∀ p ∈ news, p.1 ≠ l → p ∈ news') → RowsAt news' ex l (rows ++ more) → more.length ≤ 2 * t.size → Den txt nm (rows ++ more) r t →
    (a, tupO [.int (nI r) t1, .int (nI stop) t2]) ∈ news' → R (.ok (.ret (.ref a))) { s with heap := h', toks := tk }
def stops (post : List Nat) : Prop := post = [] ∨ ∃ c r, post = c :: r ∧ (c = 32 ∨ c = 41)
/-- _law_part reads a tree -/
def PartSpec (prog : Program) (w : World) (txt : List Nat) (nm : Nat → Nat → Option Nat) (t : Tr) : Prop :=
  ∀ {A : Around} {env : Env} {g : Heap} {L : Addr} {m : Str → Option Value} {news : List (Addr × Obj)} {s : Shared} {R : Result → Shared → Prop} {told : Str} {tk u : Nat} {pre post : List Nat} {ex : List Addr} {l d : Addr} {rows : List Row} {D : List (PyData × PyData)},
    Gd w A env g L → Fr g L s.heap m → News g L s.heap news → A.depth + 2 * t.size + 3 < recursionLimit → A.handled = none →
    told.cps.toList = pre ++ render t ++ post → stops post → told.cps.size ≤ 100000 → rows.length + 2 * t.size ≤ 900 → (∀ x ∈ t.words, ∀ c ∈ x, c ∈ AC) →
    RowsAt news ex l rows → InL ex news → HomesAt prog w news d D → d ≠ l → HomesOk txt nm rows D t.names →
    ReadK w txt nm g L m news ex l rows t (pre.length + (render t).length) s R →
    codeAny (model prog w) A (.call (.ref 490) ⟨[.str told tk, .int (nI pre.length) u, .ref l, .ref d], []⟩) R s
/-- _law_choice reads a tree without its brackets -/
def ChoiceSpec (prog : Program) (w : World) (txt : List Nat) (nm : Nat → Nat → Option Nat) (t : Tr) : Prop :=
  ∀ {A : Around} {env : Env} {g : Heap} {L : Addr} {m : Str → Option Value} {news : List (Addr × Obj)} {s : Shared} {R : Result → Shared → Prop} {told : Str} {tk u : Nat} {pre post : List Nat} {ex : List Addr} {l d : Addr} {rows : List Row} {D : List (PyData × PyData)},
    Gd w A env g L → Fr g L s.heap m → News g L s.heap news → A.depth + 2 * t.csize + 4 < recursionLimit → A.handled = none →
    told.cps.toList = pre ++ itemsText t.inner ++ post → (post = [] ∨ ∃ r, post = 41 :: r) → told.cps.size ≤ 100000 → rows.length + 2 * t.size ≤ 900 → (∀ x ∈ t.words, ∀ c ∈ x, c ∈ AC) →
    RowsAt news ex l rows → InL ex news → HomesAt prog w news d D → d ≠ l → HomesOk txt nm rows D t.names →
    ReadK w txt nm g L m news ex l rows t (pre.length + (itemsText t.inner).length) s R →
    codeAny (model prog w) A (.call (.ref 497) ⟨[.str told tk, .int (nI pre.length) u, .ref l, .ref d], []⟩) R s
end Vy
end
section
namespace Vy
def Off (wr : List Addr) (n n' : Led) : Prop := ∀ p ∈ n, (ord p.2 ∨ p.1 ∉ wr) → p ∈ n'
section
variable {prog : Program} {w : World} {A : Around} {env : Env} {g : Heap} {m : Str → Option Value} {news : Led} {R : Result → Shared → Prop}
variable {hs : Heap} {gn : Array GenState} {dr : Drawn} {tk : Nat} {os : OsState}
theorem r_loop {x : Str} {px : Pos} {body orelse : List Stmt} {I : Addr} {fp wr : List Addr} {n : Nat} {P : Nat → Value → Prop} {St : Nat → Heap → Prop}
    (W : Walks prog w A I fp wr n P St) (hx : env.kindOf x = some .local)
    (hp : (env.scope.kind == .class || (env.scope.kind == .module && env.locals != env.globals)) = false)
    (hLf : env.locals ∉ fp) (hwr : ∀ b ∈ wr, g.get? b = none) (hit : ∀ b ∈ wr, ∀ i h, St i h → ∃ o, h.get? b = some o ∧ ¬ ord o)
    (hst : St 0 hs) (F : Fr g env.locals hs m) (N : News g env.locals hs news)
    (J : Nat → (Str → Option Value) → Led → Prop) (Jm : ∀ i m n n', Off wr n n' → J i m n → J i m n') (h0 : J 0 m news)
    (turn : ∀ i v m₁ news₁ h₁ tk₁ (own : Led), i < n → P i v → J i m₁ news₁ → (∀ p ∈ own, p.1 ∈ fp) → (∀ p ∈ own, p ∈ news₁) → (∀ b ∈ fp, g.get? b = none → ∀ o, h₁.get? b = some o → (b, o) ∈ own) → St (i + 1) h₁ →
      Fr g env.locals h₁ (fun y => if y = x then some v else m₁ y) → News g env.locals h₁ news₁ →
      wpAny (model prog w) A (execs body env) (fun f s₃ => match f with
        | .next | .cont => ∃ h₂ tk₂ m₂ news₂, s₃ = ⟨h₂, gn, dr, tk₂, os⟩ ∧ Fr g env.locals h₂ m₂ ∧ News g env.locals h₂ news₂ ∧ (∀ p ∈ own, p ∈ news₂) ∧ J (i + 1) m₂ news₂
        | .brk => R (.ok .next) s₃
        | .ret v => R (.ok (.ret v)) s₃) NoE ⟨h₁, gn, dr, tk₁, os⟩)
    (done : ∀ m₁ news₁ h₁ tk₁, J n m₁ news₁ → Fr g env.locals h₁ m₁ → News g env.locals h₁ news₁ → wpAny (model prog w) A (execs orelse env) (fun f s₃ => R (.ok f) s₃) NoE ⟨h₁, gn, dr, tk₁, os⟩) :
    codeAny (model prog w) A (.forLoop (.Name x px) (.ref I) body orelse env) R ⟨hs, gn, dr, tk, os⟩ := by
  have hLw : env.locals ∉ wr := fun h => hLf (W.sub _ h)
  have old : ∀ b o, g.get? b = some o → b ∉ wr := fun b o e hb => by rw [hwr b hb] at e; cases e
  have flt : ∀ {i : Nat} {h : Heap} {nw : Led}, St i h → News g env.locals h nw → Off wr nw (nw.filter fun (p : Addr × Obj) => decide (p.1 ∉ wr)) := fun {i h nw} st Nn p hp hq => by
    refine List.mem_filter.mpr ⟨hp, ?_⟩
    rw [decide_eq_true_eq]
    rcases hq with ho | hn
    · intro hb
      obtain ⟨o, e, no⟩ := hit _ hb i h st
      rw [(Nn p hp).1] at e; cases e; exact no ho
    · exact hn
  refine codeAny_forLoop
    (fun k s' => ∃ h' tk m' news' i, s' = ⟨h', gn, dr, tk, os⟩ ∧ St i h' ∧ Fr g env.locals h' m' ∧ News g env.locals h' news' ∧ (∀ p ∈ news', p.1 ∉ wr) ∧ J i m' news' ∧ i ≤ n ∧ k = n + 1 - i) ?_ (n + 1)
    ⟨hs, tk, m, news.filter (fun (p : Addr × Obj) => decide (p.1 ∉ wr)), 0, rfl, hst, F, fun p hp => N p (List.mem_filter.mp hp).1, fun p hp => by simpa using (List.mem_filter.mp hp).2, Jm _ _ _ _ (flt hst N) h0, Nat.zero_le _, rfl⟩
  rintro k s' ⟨h', tk, m', news', i, rfl, hst', F', N', hnw', hJ, hi, rfl⟩
  have next : ∀ h₁ : Heap, (∀ b o, b ∉ wr → h'.get? b = some o → h₁.get? b = some o) → Fr g env.locals h₁ m' ∧ News g env.locals h₁ news' := fun h₁ hk₁ =>
    ⟨⟨F'.ns.at' fun o e => hk₁ _ o hLw e, fun b o e => hk₁ b o (old b o e) (F'.keep b o e), F'.above⟩, fun p hp => ⟨hk₁ _ _ (hnw' p hp) (N' p hp).1, (N' p hp).2⟩⟩
  by_cases hlt : i < n
  · refine W.item i _ _ _ hlt hst' fun v h₁ tk₁ hP hst₁ hk₁ => ?_
    obtain ⟨F₁, N₁⟩ := next h₁ hk₁
    refine wpAny_assign_Name (wpAny_storeName_local hx F₁.ns (fun h₂ hn₂ hs₂ => ?_) hp)
    have F₂ := F₁.set hn₂ hs₂
    have Nown : News g env.locals h₂ (ownOf g fp h₂) := news_ownOf hLf
    have hst₂ : St (i + 1) h₂ := W.frame _ _ _ hst₁ fun b hb o e => (hs₂.2 b fun q => hLf (q ▸ hb)).trans e
    have N₂ := Nown.append (N₁.set hs₂)
    refine wpAny_mono (turn i v m' _ h₂ _ (ownOf g fp h₂) hlt hP (Jm _ _ _ _ (fun p hp _ => List.mem_append_right _ hp) hJ) ownOf_sub (fun p hp => List.mem_append_left _ hp) (fun b hb hn o e => mem_ownOf hb hn e) hst₂ F₂ N₂) (fun f s₃ h₃ => ?_) fun _ _ e => e.elim
    have fin : (∃ h₃ tk₂ m₂ news₂, s₃ = ⟨h₃, gn, dr, tk₂, os⟩ ∧ Fr g env.locals h₃ m₂ ∧ News g env.locals h₃ news₂ ∧ (∀ p ∈ ownOf g fp h₂, p ∈ news₂) ∧ J (i + 1) m₂ news₂) →
        ∃ m, m < n + 1 - i ∧ ∃ h' tk m' news' i, s₃ = ⟨h', gn, dr, tk, os⟩ ∧ St i h' ∧ Fr g env.locals h' m' ∧ News g env.locals h' news' ∧ (∀ p ∈ news', p.1 ∉ wr) ∧ J i m' news' ∧ i ≤ n ∧ m = n + 1 - i := by
      rintro ⟨h₃', tk₃, m₂, news₂, rfl, F₃, N₃, hown, hJ₃⟩
      have hst₃ : St (i + 1) h₃' := by
        refine W.frame _ _ _ hst₁ fun b hb o e => ?_
        have e₂ : h₂.get? b = some o := (hs₂.2 b fun q => hLf (q ▸ hb)).trans e
        cases hn : g.get? b with
        | some o₀ =>
          have : o₀ = o := by have := F₂.keep b o₀ hn; rw [e₂] at this; exact (Option.some.inj this).symm
          exact this ▸ F₃.keep b o₀ hn
        | none => exact (N₃ _ (hown _ (mem_ownOf hb hn e₂))).1
      exact ⟨n + 1 - (i + 1), by omega, h₃', tk₃, m₂, news₂.filter (fun (p : Addr × Obj) => decide (p.1 ∉ wr)), i + 1, rfl, hst₃, F₃, fun p hp => N₃ p (List.mem_filter.mp hp).1, fun p hp => by simpa using (List.mem_filter.mp hp).2, Jm _ _ _ _ (flt hst₃ N₃) hJ₃, hlt, rfl⟩
    cases f with
    | next => exact fin h₃
    | cont => exact fin h₃
    | brk => exact h₃
    | ret v => exact h₃
  · have hin : i = n := by omega
    subst hin
    refine W.done _ _ _ hst' fun h₁ tk₁ hk₁ => ?_
    obtain ⟨F₁, N₁⟩ := next h₁ hk₁
    exact wpAny_mono (done m' news' h₁ tk₁ hJ F₁ N₁) (fun _ _ x => x) fun _ _ x => x.elim

/-- a loop over a list of the ledger -/
theorem r_iterList {x : Str} {px : Pos} {body orelse : List Stmt} {l : Addr} {vs : List Value} {nn : Nat} {E : Value → Shared → Prop}
    (hh : A.handled = none) (hx : env.kindOf x = some .local) (hp : (env.scope.kind == .class || (env.scope.kind == .module && env.locals != env.globals)) = false)
    (F : Fr g env.locals hs m) (N : News g env.locals hs news) (hm : (l, listOf (List.toArray vs) nn) ∈ news)
    (J : Addr → Nat → (Str → Option Value) → Led → Prop) (Jm : ∀ I i m n n', (∀ p ∈ news, p.1 ≠ I) → Off [I] n n' → J I i m n → J I i m n') (h0 : ∀ I, (∀ p ∈ news, p.1 ≠ I) → J I 0 m news)
    (turn : ∀ I i v m₁ news₁ h₁ tk₁ it, (∀ p ∈ news, p.1 ≠ I) → vs[i]? = some v → J I i m₁ news₁ → (I, it) ∈ news₁ → (l, listOf (List.toArray vs) nn) ∈ news₁ →
      Fr g env.locals h₁ (fun y => if y = x then some v else m₁ y) → News g env.locals h₁ news₁ →
      wpAny (model prog w) A (execs body env) (fun f s₃ => match f with
        | .next | .cont => ∃ h₂ tk₂ m₂ news₂, s₃ = ⟨h₂, gn, dr, tk₂, os⟩ ∧ Fr g env.locals h₂ m₂ ∧ News g env.locals h₂ news₂ ∧ (I, it) ∈ news₂ ∧ (l, listOf (List.toArray vs) nn) ∈ news₂ ∧ J I (i + 1) m₂ news₂
        | .brk => R (.ok .next) s₃
        | .ret v => R (.ok (.ret v)) s₃) NoE ⟨h₁, gn, dr, tk₁, os⟩)
    (done : ∀ I m₁ news₁ h₁ tk₁, (∀ p ∈ news, p.1 ≠ I) → J I vs.length m₁ news₁ → Fr g env.locals h₁ m₁ → News g env.locals h₁ news₁ → wpAny (model prog w) A (execs orelse env) (fun f s₃ => R (.ok f) s₃) NoE ⟨h₁, gn, dr, tk₁, os⟩) :
    wpAny (model prog w) A (pyIter (.ref l)) (fun it s₂ => codeAny (model prog w) A (.forLoop (.Name x px) it body orelse env) R s₂) E ⟨hs, gn, dr, tk, os⟩ := by
  have D := N _ hm
  refine wpAny_pyIter_list (News.isList N hm) ?_
  have hlt : ∀ p ∈ news, p.1 ≠ hs.objs.size := fun p hp => Nat.ne_of_lt (Heap.lt_size (N p hp).1)
  have hIg : g.get? hs.objs.size = none := by
    cases q : g.get? hs.objs.size with
    | none => rfl
    | some o => exact absurd (Heap.lt_size (F.keep _ _ q)) (Nat.lt_irrefl _)
  have hIL : env.locals ≠ hs.objs.size := by
    obtain ⟨oL, _, _, hL, _⟩ := F.ns
    exact Nat.ne_of_lt (Heap.lt_size hL)
  let it0 : Obj := { cls := .type "list_iterator", data := .fields #[.ref l, .int 0 0] }
  have N2 : News g env.locals (hs.push it0) ((hs.objs.size, it0) :: news) := N.push F it0
  have hord : ord (listOf (List.toArray vs) nn) := ⟨by simp, by simp, by simp⟩
  refine r_loop (W := Walks.list hh hs.objs.size l (hlt _ hm) (List.toArray vs)) hx hp (by simp [hIL]; exact fun e => D.2.1 e.symm) (by simpa using hIg)
    (fun b hb i h st => ?_) ⟨⟨_, Heap.get?_push_size _ rfl, rfl, rfl⟩, (News.isList N hm).push _⟩ (F.push _) N2 (fun i m n => J hs.objs.size i m n ∧ (l, listOf (List.toArray vs) nn) ∈ n)
    (fun i m n n' hO hJ => ⟨Jm _ _ _ _ _ hlt hO hJ.1, hO _ hJ.2 (.inl hord)⟩)
    ⟨Jm _ _ _ _ _ hlt (fun p hp _ => .tail _ hp) (h0 _ hlt), .tail _ hm⟩ ?_ ?_
  · obtain ⟨o, ho, hc, _⟩ := st.1
    simp only [List.mem_singleton] at hb
    subst hb
    exact ⟨o, ho, fun q => q.1 hc⟩
  · intro i v m₁ news₁ h₁ tk₁ own hi hP hJ hsub hown hall hst F₁ N₁
    obtain ⟨oI, hoI, _⟩ := hst.1
    have mI := hall hs.objs.size (by simp) hIg oI hoI
    have hv : (List.toArray vs)[i]? = some v := hP
    refine wpAny_mono (turn hs.objs.size i v m₁ news₁ h₁ tk₁ oI hlt (by simpa using hv) hJ.1 (hown _ mI) hJ.2 F₁ N₁) (fun f s₃ h₃ => ?_) fun _ _ e => e
    have fin : (∃ h₂ tk₂ m₂ news₂, s₃ = ⟨h₂, gn, dr, tk₂, os⟩ ∧ Fr g env.locals h₂ m₂ ∧ News g env.locals h₂ news₂ ∧ (hs.objs.size, oI) ∈ news₂ ∧ (l, listOf (List.toArray vs) nn) ∈ news₂ ∧ J hs.objs.size (i + 1) m₂ news₂) →
        ∃ h₂ tk₂ m₂ news₂, s₃ = ⟨h₂, gn, dr, tk₂, os⟩ ∧ Fr g env.locals h₂ m₂ ∧ News g env.locals h₂ news₂ ∧ (∀ p ∈ own, p ∈ news₂) ∧ J hs.objs.size (i + 1) m₂ news₂ ∧ (l, listOf (List.toArray vs) nn) ∈ news₂ := by
      rintro ⟨h₂, tk₂, m₂, news₂, e, F₂, N₂, mI₂, ml₂, hJ₂⟩
      refine ⟨h₂, tk₂, m₂, news₂, e, F₂, N₂, fun p hp => ?_, hJ₂, ml₂⟩
      have e1 := (N₁ _ (hown p hp)).1
      rcases List.mem_cons.mp (hsub p hp) with q | q
      · rw [q, hoI] at e1
        have : p = (hs.objs.size, oI) := Prod.ext q (Option.some.inj e1).symm
        exact this ▸ mI₂
      · have q : p.1 = l := by simpa using q
        rw [q, (N₁ _ hJ.2).1] at e1
        have : p = (l, listOf (List.toArray vs) nn) := Prod.ext q (Option.some.inj e1).symm
        exact this ▸ ml₂
    cases f with
    | next => exact fin h₃
    | cont => exact fin h₃
    | brk => exact h₃
    | ret v => exact h₃
  · intro m₁ news₁ h₁ tk₁ hJ F₁ N₁
    rw [List.size_toArray] at hJ
    exact done _ m₁ news₁ h₁ tk₁ hlt hJ.1 F₁ N₁
end
end Vy
end
section
namespace Vy
section
variable {prog : Program} {w : World} {A : Around} {env : Env} {g : Heap} {m : Str → Option Value} {news : Led} {R : Result → Shared → Prop}
variable {hs : Heap} {gn : Array GenState} {dr : Drawn} {tk : Nat} {os : OsState}
theorem r_loopG {tg : Expr} {body orelse : List Stmt} {I : Addr} {fp wr : List Addr} {n : Nat} {P : Nat → Value → Prop} {St : Nat → Heap → Prop}
    (W : Walks prog w A I fp wr n P St) (hgo : ∀ i v (s : Shared) (Q : Unit → Shared → Prop) (E : Value → Shared → Prop), St i s.heap → Q () s → wpAny (model prog w) A (letOwnedTupleGo tg (.ref I) v) Q E s)
    (hLf : env.locals ∉ fp) (hwr : ∀ b ∈ wr, g.get? b = none) (hit : ∀ b ∈ wr, ∀ i h, St i h → ∃ o, h.get? b = some o ∧ ¬ ord o)
    (hst : St 0 hs) (F : Fr g env.locals hs m) (N : News g env.locals hs news)
    (J : Nat → (Str → Option Value) → Led → Prop) (Jm : ∀ i m n n', Off wr n n' → J i m n → J i m n') (h0 : J 0 m news)
    (turn : ∀ i v m₁ news₁ h₁ tk₁ (own : Led), i < n → P i v → J i m₁ news₁ → (∀ p ∈ own, p.1 ∈ fp) → (∀ p ∈ own, p ∈ news₁) → (∀ b ∈ fp, g.get? b = none → ∀ o, h₁.get? b = some o → (b, o) ∈ own) → St (i + 1) h₁ →
      Fr g env.locals h₁ m₁ → News g env.locals h₁ news₁ →
      wpAny (model prog w) A (assign tg env v) (fun _ s₂ => wpAny (model prog w) A (execs body env) (fun f s₃ => match f with
        | .next | .cont => ∃ h₂ tk₂ m₂ news₂, s₃ = ⟨h₂, gn, dr, tk₂, os⟩ ∧ Fr g env.locals h₂ m₂ ∧ News g env.locals h₂ news₂ ∧ (∀ p ∈ own, p ∈ news₂) ∧ J (i + 1) m₂ news₂
        | .brk => R (.ok .next) s₃
        | .ret v => R (.ok (.ret v)) s₃) NoE s₂) NoE ⟨h₁, gn, dr, tk₁, os⟩)
    (done : ∀ m₁ news₁ h₁ tk₁, J n m₁ news₁ → Fr g env.locals h₁ m₁ → News g env.locals h₁ news₁ → wpAny (model prog w) A (execs orelse env) (fun f s₃ => R (.ok f) s₃) NoE ⟨h₁, gn, dr, tk₁, os⟩) :
    codeAny (model prog w) A (.forLoop tg (.ref I) body orelse env) R ⟨hs, gn, dr, tk, os⟩ := by
  have hLw : env.locals ∉ wr := fun h => hLf (W.sub _ h)
  have old : ∀ b o, g.get? b = some o → b ∉ wr := fun b o e hb => by rw [hwr b hb] at e; cases e
  have flt : ∀ {i : Nat} {h : Heap} {nw : Led}, St i h → News g env.locals h nw → Off wr nw (nw.filter fun (p : Addr × Obj) => decide (p.1 ∉ wr)) := fun {i h nw} st Nn p hp hq => by
    refine List.mem_filter.mpr ⟨hp, ?_⟩
    rw [decide_eq_true_eq]
    rcases hq with ho | hn
    · intro hb
      obtain ⟨o, e, no⟩ := hit _ hb i h st
      rw [(Nn p hp).1] at e; cases e; exact no ho
    · exact hn
  refine codeAny_forLoop_any
    (fun k s' => ∃ h' tk m' news' i, s' = ⟨h', gn, dr, tk, os⟩ ∧ St i h' ∧ Fr g env.locals h' m' ∧ News g env.locals h' news' ∧ (∀ p ∈ news', p.1 ∉ wr) ∧ J i m' news' ∧ i ≤ n ∧ k = n + 1 - i) ?_ (n + 1)
    ⟨hs, tk, m, news.filter (fun (p : Addr × Obj) => decide (p.1 ∉ wr)), 0, rfl, hst, F, fun p hp => N p (List.mem_filter.mp hp).1, fun p hp => by simpa using (List.mem_filter.mp hp).2, Jm _ _ _ _ (flt hst N) h0, Nat.zero_le _, rfl⟩
  rintro k s' ⟨h', tk, m', news', i, rfl, hst', F', N', hnw', hJ, hi, rfl⟩
  have next : ∀ h₁ : Heap, (∀ b o, b ∉ wr → h'.get? b = some o → h₁.get? b = some o) → Fr g env.locals h₁ m' ∧ News g env.locals h₁ news' := fun h₁ hk₁ =>
    ⟨⟨F'.ns.at' fun o e => hk₁ _ o hLw e, fun b o e => hk₁ b o (old b o e) (F'.keep b o e), F'.above⟩, fun p hp => ⟨hk₁ _ _ (hnw' p hp) (N' p hp).1, (N' p hp).2⟩⟩
  by_cases hlt : i < n
  · refine W.item i _ _ _ hlt hst' fun v h₁ tk₁ hP hst₁ hk₁ => ?_
    obtain ⟨F₁, N₁⟩ := next h₁ hk₁
    refine hgo (i + 1) v _ _ _ hst₁ ?_
    have Nown : News g env.locals h₁ (ownOf g fp h₁) := news_ownOf hLf
    have N₂ := Nown.append N₁
    refine wpAny_mono (turn i v m' _ h₁ _ (ownOf g fp h₁) hlt hP (Jm _ _ _ _ (fun p hp _ => List.mem_append_right _ hp) hJ) ownOf_sub (fun p hp => List.mem_append_left _ hp) (fun b hb hn o e => mem_ownOf hb hn e) hst₁ F₁ N₂) (fun _ s₂ h₂ => ?_) fun _ _ e => e.elim
    refine wpAny_mono h₂ (fun f s₃ h₃ => ?_) fun _ _ e => e.elim
    have fin : (∃ h₃ tk₂ m₂ news₂, s₃ = ⟨h₃, gn, dr, tk₂, os⟩ ∧ Fr g env.locals h₃ m₂ ∧ News g env.locals h₃ news₂ ∧ (∀ p ∈ ownOf g fp h₁, p ∈ news₂) ∧ J (i + 1) m₂ news₂) →
        ∃ m, m < n + 1 - i ∧ ∃ h' tk m' news' i, s₃ = ⟨h', gn, dr, tk, os⟩ ∧ St i h' ∧ Fr g env.locals h' m' ∧ News g env.locals h' news' ∧ (∀ p ∈ news', p.1 ∉ wr) ∧ J i m' news' ∧ i ≤ n ∧ m = n + 1 - i := by
      rintro ⟨h₃', tk₃, m₂, news₂, rfl, F₃, N₃, hown, hJ₃⟩
      have hst₃ : St (i + 1) h₃' := by
        refine W.frame _ _ _ hst₁ fun b hb o e => ?_
        have e₂ : h₁.get? b = some o := e
        cases hn : g.get? b with
        | some o₀ =>
          have : o₀ = o := by have := F₁.keep b o₀ hn; rw [e₂] at this; exact (Option.some.inj this).symm
          exact this ▸ F₃.keep b o₀ hn
        | none => exact (N₃ _ (hown _ (mem_ownOf hb hn e₂))).1
      exact ⟨n + 1 - (i + 1), by omega, h₃', tk₃, m₂, news₂.filter (fun (p : Addr × Obj) => decide (p.1 ∉ wr)), i + 1, rfl, hst₃, F₃, fun p hp => N₃ p (List.mem_filter.mp hp).1, fun p hp => by simpa using (List.mem_filter.mp hp).2, Jm _ _ _ _ (flt hst₃ N₃) hJ₃, hlt, rfl⟩
    cases f with
    | next => exact fin h₃
    | cont => exact fin h₃
    | brk => exact h₃
    | ret v => exact h₃
  · have hin : i = n := by omega
    subst hin
    refine W.done _ _ _ hst' fun h₁ tk₁ hk₁ => ?_
    obtain ⟨F₁, N₁⟩ := next h₁ hk₁
    exact wpAny_mono (done m' news' h₁ tk₁ hJ F₁ N₁) (fun _ _ x => x) fun _ _ x => x.elim

end
end Vy
end
section
namespace Vy
abbrev Tk := Option (Option Tr)
def tokText : Tk → List Nat
  | none => [32]
  | some i => itemText i
def toks : List (Option Tr) → List Tk
  | [] => []
  | [i] => [some i]
  | i :: j :: r => some i :: none :: toks (j :: r)
def txtOf (ts : List Tk) : List Nat := ts.flatMap tokText
theorem toks_text : ∀ is : List (Option Tr), txtOf (toks is) = itemsText is
  | [] => rfl
  | [i] => by simp [toks, txtOf, tokText, itemsText]
  | i :: j :: r => by
    have ih := toks_text (j :: r)
    show tokText (some i) ++ (tokText none ++ txtOf (toks (j :: r))) = _
    rw [ih]; simp [tokText, itemsText]
def stepT (s : List (List Tr) × List Tr) : Tk → List (List Tr) × List Tr
  | none => s
  | some none => (s.1 ++ [s.2], [])
  | some (some t) => (s.1, s.2 ++ [t])
theorem fold_groups : ∀ (is : List (Option Tr)) (cl : List (List Tr)) (cur : List Tr), ∃ hd tl, groups is = hd :: tl ∧
    ((toks is).foldl stepT (cl, cur)).1 ++ [((toks is).foldl stepT (cl, cur)).2] = cl ++ (cur ++ hd) :: tl
  | [], cl, cur => ⟨[], [], rfl, by simp [toks]⟩
  | [none], cl, cur => ⟨[], [[]], rfl, by simp [toks, stepT]⟩
  | [some t], cl, cur => ⟨[t], [], rfl, by simp [toks, stepT]⟩
  | none :: j :: r, cl, cur => by
    obtain ⟨hd, tl, e, h⟩ := fold_groups (j :: r) (cl ++ [cur]) []
    refine ⟨[], hd :: tl, by rw [groups, e], ?_⟩
    show ((toks (j :: r)).foldl stepT (cl ++ [cur], [])).1 ++ [((toks (j :: r)).foldl stepT (cl ++ [cur], [])).2] = _
    rw [h]; simp
  | some t :: j :: r, cl, cur => by
    obtain ⟨hd, tl, e, h⟩ := fold_groups (j :: r) cl (cur ++ [t])
    refine ⟨t :: hd, tl, by rw [groups, e], ?_⟩
    show ((toks (j :: r)).foldl stepT (cl, cur ++ [t])).1 ++ [((toks (j :: r)).foldl stepT (cl, cur ++ [t])).2] = _
    rw [h]; simp
theorem groups_toks {is : List (Option Tr)} {cl : List (List Tr)} {cur : List Tr} (h : (toks is).foldl stepT ([], []) = (cl, cur)) : groups is = cl ++ [cur] := by
  obtain ⟨hd, tl, e, q⟩ := fold_groups is [] []
  rw [h] at q; simp at q; rw [e, q]
/-- after a tree comes a blank or the end -/
def okT : List Tk → Prop
  | [] => True
  | some (some _) :: r => (r = [] ∨ ∃ r', r = none :: r') ∧ okT r
  | _ :: r => okT r
theorem okT_toks : ∀ is : List (Option Tr), okT (toks is)
  | [] => trivial
  | [none] => trivial
  | [some t] => ⟨.inl rfl, trivial⟩
  | none :: j :: r => okT_toks (j :: r)
  | some t :: j :: r => ⟨.inr ⟨_, rfl⟩, okT_toks (j :: r)⟩
theorem okT.tail {a : Tk} {r : List Tk} (h : okT (a :: r)) : okT r := by
  rcases a with _ | _ | t
  · exact h
  · exact h
  · exact h.2
theorem okT.drop : ∀ {a r : List Tk}, okT (a ++ r) → okT r
  | [], _, h => h
  | _ :: a, _, h => okT.drop (a := a) (okT.tail h)
def szT : Tk → Nat
  | some (some t) => t.size
  | _ => 0
def szs (ts : List Tk) : Nat := (ts.map szT).sum
theorem szs_snoc (a : List Tk) (b : Tk) : szs (a ++ [b]) = szs a + szT b := by simp [szs]
theorem szs_append (a b : List Tk) : szs (a ++ b) = szs a + szs b := by simp [szs]
theorem mem_toks {is : List (Option Tr)} {t : Tr} (h : some (some t) ∈ toks is) : some t ∈ is := by
  revert h
  match is with
  | [] => intro h; cases h
  | [i] => intro h; simp [toks] at h; simp [h]
  | i :: j :: r =>
    intro h
    simp only [toks, List.mem_cons] at h
    rcases h with h | h | h
    · cases h; exact .head _
    · cases h
    · exact .tail _ (mem_toks h)
theorem inner_szs (t : Tr) : szs (toks t.inner) = if t.bare then t.size - 1 else t.size := by
  cases t <;> simp [Tr.inner, toks, szs, szT, Tr.bare, Tr.size] <;> omega
theorem inner_size {t t' : Tr} (h : some t' ∈ t.inner) : t'.size ≤ t.csize := by
  cases t <;> simp [Tr.inner] at h <;> simp [Tr.csize, Tr.bare, Tr.size] <;> (try subst h) <;> (try simp [Tr.size]) <;> (first | (rcases h with rfl | rfl | rfl <;> omega) | (rcases h with rfl | rfl <;> omega) | skip)
theorem inner_names {t t' : Tr} (h : some t' ∈ t.inner) : ∀ x ∈ t'.names, x ∈ t.names := by
  cases t <;> simp [Tr.inner] at h <;> (try subst h) <;> (first | (rcases h with rfl | rfl | rfl <;> intro x hx <;> simp [Tr.names, hx]) | (rcases h with rfl | rfl <;> intro x hx <;> simp [Tr.names, hx]) | (intro x hx; exact hx))
theorem inner_words {t t' : Tr} (h : some t' ∈ t.inner) : ∀ x ∈ t'.words, x ∈ t.words := by
  cases t <;> simp [Tr.inner] at h <;> (try subst h) <;> (first | (rcases h with rfl | rfl | rfl <;> intro x hx <;> simp [Tr.words, hx]) | (rcases h with rfl | rfl <;> intro x hx <;> simp [Tr.words, hx]) | (intro x hx; exact hx))
theorem render_head (t : Tr) : ∃ c r, render t = c :: r ∧ c ≠ 41 ∧ c ≠ 32 ∧ c ≠ 47 := by
  cases t with
  | word x => exact ⟨_, _, reprW_eq x, by rcases qW_or x with h | h <;> rw [h] <;> decide⟩
  | name k => exact ⟨_, _, rfl, by decide⟩
  | seq2 a b => exact ⟨_, _, rfl, by decide⟩
  | seq3 a b c => exact ⟨_, _, rfl, by decide⟩
  | alt2 a b => exact ⟨_, _, rfl, by decide⟩
  | alt3 a b c => exact ⟨_, _, rfl, by decide⟩
  | neg a => exact ⟨_, _, rfl, by decide⟩
  | look a => exact ⟨_, _, rfl, by decide⟩
/-- rows that the ways cost besides their parts -/
def extra (gs : List (List Tr)) : Nat := (gs.map fun g => if g.length = 1 then 0 else 1).sum + (if gs.length = 1 then 0 else 1)
theorem extra_le (t : Tr) : 2 * szs (toks t.inner) + extra (groups t.inner) ≤ 2 * t.size := by
  rw [inner_szs]
  have := t.size_pos
  cases t <;> simp [Tr.inner, groups, extra, Tr.bare, Tr.size] at * <;> omega
end Vy
namespace Vy
theorem fold_len : ∀ (ts : List Tk) (cl : List (List Tr)) (cur : List Tr), (ts.foldl stepT (cl, cur)).1.length ≤ cl.length + ts.length
  | [], cl, cur => by simp
  | a :: r, cl, cur => by
    have ih := fold_len r (stepT (cl, cur) a).1 (stepT (cl, cur) a).2
    show (r.foldl stepT (stepT (cl, cur) a)).1.length ≤ _
    rcases a with _ | _ | t <;> simp [stepT] at ih ⊢ <;> omega
theorem fold_len2 : ∀ (ts : List Tk) (cl : List (List Tr)) (cur : List Tr), (ts.foldl stepT (cl, cur)).2.length ≤ cur.length + ts.length
  | [], cl, cur => by simp
  | a :: r, cl, cur => by
    have ih := fold_len2 r (stepT (cl, cur) a).1 (stepT (cl, cur) a).2
    show (r.foldl stepT (stepT (cl, cur) a)).2.length ≤ _
    rcases a with _ | _ | t <;> simp [stepT] at ih ⊢ <;> omega
theorem toks_len (t : Tr) : (toks t.inner).length ≤ 9 := by cases t <;> simp [Tr.inner, toks]
theorem IntsAre.len' {vs : List Value} {ns : List Int} (h : IntsAre vs ns) : vs.length = ns.length := h.length
theorem IntsAre.snoc' {vs : List Value} {ns : List Int} {k : Int} {t : Tok} (h : IntsAre vs ns) : IntsAre (vs ++ [.int k t]) (ns ++ [k]) := by
  induction h with
  | nil => exact .cons _ _ .nil
  | cons n t _ ih => exact .cons _ _ ih
theorem IntsAre.get' {vs : List Value} {ns : List Int} (h : IntsAre vs ns) : ∀ (i : Nat) (k : Int), ns[i]? = some k → ∃ t, vs[i]? = some (.int k t) := h.get
def ListI (n : Led) (b : Addr) (ks : List Nat) : Prop := ∃ vs nb, (b, listOf (List.toArray vs) nb) ∈ n ∧ IntsAre vs (ks.map nI)
theorem ListI.monoO {n n' : Led} {b : Addr} {ks : List Nat} (h : ListI n b ks) (k : ∀ p ∈ n, p.1 = b → ord p.2 → p ∈ n') : ListI n' b ks := let ⟨vs, nb, m, i⟩ := h; ⟨vs, nb, k _ m rfl (ord_list _ _), i⟩
def WaysJ (txt : List Nat) (nm : Nat → Nat → Option Nat) (old n : Led) (ex : List Addr) (l W : Addr) (rows : List Row) (cl : List (List Tr)) (cur : List Tr) : Prop :=
  ∃ bs ks c cvs kc nW nC, (W, listOf (List.toArray ((bs ++ [c]).map Value.ref)) nW) ∈ n ∧ (c, listOf (List.toArray cvs) nC) ∈ n ∧
    All2 (ListI n) bs ks ∧ IntsAre cvs (kc.map nI) ∧ All2 (All2 (Den txt nm rows)) ks cl ∧ All2 (Den txt nm rows) kc cur ∧
    (∀ b ∈ bs, b ≠ c) ∧ (∀ b ∈ bs ++ [c], b ∉ W :: ex) ∧ W ∉ ex ∧ RowsAt n (bs ++ c :: W :: ex) l rows ∧ InL ex n ∧ ∀ b ∈ bs ++ [c], ∀ p ∈ old, p.1 ≠ b
end Vy
namespace Vy
/-- row k means the sequence g -/
def DenG (txt : List Nat) (nm : Nat → Nat → Option Nat) (rows : List Row) (k : Nat) (g : List Tr) : Prop := k < rows.length ∧ ∀ p, rs txt rows k p = seqSem txt nm g p
theorem DenG.more {txt : List Nat} {nm : Nat → Nat → Option Nat} {rows : List Row} {k : Nat} {g : List Tr} (h : DenG txt nm rows k g) (more : List Row) : DenG txt nm (rows ++ more) k g :=
  ⟨by have := h.1; simp; omega, fun p => (rs_append h.1).trans (h.2 p)⟩
theorem DenG.one {txt : List Nat} {nm : Nat → Nat → Option Nat} {rows : List Row} {k : Nat} {t : Tr} (h : Den txt nm rows k t) : DenG txt nm rows k [t] :=
  ⟨h.1, fun p => by rw [h.2 p]; show _ = (semT txt nm t p).bind (fun q => some q); cases semT txt nm t p <;> rfl⟩
theorem allSem_den {txt : List Nat} {nm : Nat → Nat → Option Nat} {rows : List Row} {ks : List Nat} {g : List Tr} (h : All2 (Den txt nm rows) ks g) : ∀ p, allSem (rs txt rows) ks p = seqSem txt nm g p := by
  induction h with
  | nil => intro p; rfl
  | cons d _ ih =>
    intro p
    show (rs txt rows _ p).bind (allSem (rs txt rows) _) = (semT txt nm _ p).bind (seqSem txt nm _)
    rw [d.2 p]
    cases semT txt nm _ p with
    | none => rfl
    | some q => exact ih q
theorem anySem_den {txt : List Nat} {nm : Nat → Nat → Option Nat} {rows : List Row} {ks : List Nat} {gs : List (List Tr)} (h : All2 (DenG txt nm rows) ks gs) : ∀ p, anySem (rs txt rows) ks p = altSem txt nm gs p := by
  induction h with
  | nil => intro p; rfl
  | cons d _ ih =>
    intro p
    show (rs txt rows _ p).or (anySem (rs txt rows) _ p) = (seqSem txt nm _ p).or (altSem txt nm _ p)
    rw [d.2 p, ih p]
theorem altSem_one {txt : List Nat} {nm : Nat → Nat → Option Nat} {g : List Tr} {p : Nat} : altSem txt nm [g] p = seqSem txt nm g p := by
  show (seqSem txt nm g p).or none = _; cases seqSem txt nm g p <;> rfl
theorem All2.get2 {α β : Type} {P : α → β → Prop} {as : List α} {bs : List β} (h : All2 P as bs) : ∀ (i : Nat) (a : α), as[i]? = some a → ∃ b, bs[i]? = some b ∧ P a b := by
  induction h with
  | nil => intro i b e; simp at e
  | cons p _ ih =>
    intro i a e
    cases i with
    | zero => simp at e; subst e; exact ⟨_, by simp, p⟩
    | succ i => simp at e; obtain ⟨b, hb, q⟩ := ih i a e; exact ⟨b, by simpa using hb, q⟩
theorem sum_take_le {α : Type} (f : α → Nat) : ∀ (l : List α) (i : Nat), ((l.take i).map f).sum ≤ (l.map f).sum
  | [], i => by simp
  | a :: l, 0 => by simp
  | a :: l, i + 1 => by have := sum_take_le f l i; simp only [List.take_succ_cons, List.map_cons, List.sum_cons]; omega
theorem groups_len : ∀ (is : List (Option Tr)), ∀ g ∈ groups is, g.length ≤ is.length
  | [], g, h => by simp [groups] at h; subst h; simp
  | none :: r, g, h => by
    simp only [groups, List.mem_cons] at h
    rcases h with rfl | h
    · simp
    · have := groups_len r g h; simp only [List.length_cons]; omega
  | some t :: r, g, h => by
    have ih := groups_len r
    unfold groups at h
    split at h
    · rename_i g0 gs e
      rw [e] at ih
      rcases List.mem_cons.mp h with rfl | h
      · have := ih g0 (.head _); simp only [List.length_cons]; omega
      · have := ih g (.tail _ h); simp only [List.length_cons]; omega
    · simp at h; subst h; simp
theorem inner_len (t : Tr) : t.inner.length ≤ 5 := by cases t <;> simp [Tr.inner]
/-- what holds in the second loop of the choice -/
def KidsJ (txt : List Nat) (nm : Nat → Nat → Option Nat) (old : Led) (ex : List Addr) (l K : Addr) (rows : List Row) (G : List (List Tr)) (ways : List Addr) (ksA : List (List Nat)) (at_ : Int) (i : Nat) (m : Str → Option Value) (n : Led) : Prop :=
  ∃ more kk kvs nk, m "rows" = some (.ref l) ∧ m "kids" = some (.ref K) ∧ LInt m "at" at_ ∧ RowsAt n (K :: ex) l (rows ++ more) ∧ more.length ≤ ((G.take i).map fun g => if g.length = 1 then 0 else 1).sum ∧
    (K, listOf (List.toArray kvs) nk) ∈ n ∧ IntsAre kvs (kk.map nI) ∧ All2 (DenG txt nm (rows ++ more)) kk (G.take i) ∧ All2 (ListI n) ways ksA ∧ (∀ p ∈ old, p.1 ≠ l → p ∈ n) ∧ InL ex n
end Vy
end
section
namespace Vy
section
variable {prog : Program} {w : World} {A : Around} {E : Value → Shared → Prop} {s : Shared} {env : Env} {g : Heap} {L : Addr} {m : Str → Option Value} {news : List (Addr × Obj)} {R : Result → Shared → Prop}
theorem r_item {value slice : Expr} {l : Addr} {vs : List Value} {n : Nat} {k : Nat} {u : Tok} {x : Value} {Q : Value → Shared → Prop} (N : News g L s.heap news) (hm : (l, listOf (List.toArray vs) n) ∈ news)
    (hk : k < 1000000) (hx : vs[k]? = some x) (h : Q x s)
    (hs : subscripted slice false (.ref l) (.int (k : Nat) u) = operate [.ref l, .int (k : Nat) u] (getItem (.ref l) (.int (k : Nat) u)) := by with_unfolding_all rfl) (hg : ∀ r, letTemporaryGo value (.ref l) r = pure () := by intro _; with_unfolding_all rfl) :
    wpAny (model prog w) A (subscriptTail value slice (.ref l) (.int (k : Nat) u)) Q E s :=
  item_listL (News.isList N hm) (by omega) (by omega) (by simpa using hx) h hs hg
theorem r_itemLast {value slice : Expr} {l : Addr} {vs : List Value} {n : Nat} {u : Tok} {x : Value} {Q : Value → Shared → Prop} (N : News g L s.heap news) (hm : (l, listOf (List.toArray (vs ++ [x])) n) ∈ news)
    (h : Q x s)
    (hs : subscripted slice false (.ref l) (.int (-1) u) = operate [.ref l, .int (-1) u] (getItem (.ref l) (.int (-1) u)) := by with_unfolding_all rfl) :
    wpAny (model prog w) A (subscriptTail value slice (.ref l) (.int (-1) u)) Q E s := by
  refine kde_neg (j := vs.length) (News.isList N hm) (by decide) (by decide) ?_ (by simp) h hs
  unfold seqIndex?
  have : ((-1 : Int) < 0) := by decide
  simp only [this, if_true, List.length_append, List.length_cons, List.length_nil]
  rw [if_pos (by simp; omega)]
  congr 1; omega
end
end Vy
end
section
open PyProof.V PySem.Builtin PySem.Builtin.Str
namespace Vy
theorem sliceIdx_hi (l : Option Int) {j : Int} {len : Nat} (h : (len : Int) ≤ j) : strSliceIndices l (some j) 1 len = strSliceIndices l (some (len : Int)) 1 len := by
  have a : ¬ ((len : Int) < 0) := by omega
  have b : ¬ (j < 0) := by omega
  have c : max (0 : Int) (min j (len : Int)) = (len : Int) := by omega
  have d : max (0 : Int) (min (len : Int) (len : Int)) = (len : Int) := by omega
  simp [strSliceIndices, a, b, c]
theorem slice_any {x : Str} {i j : Nat} (hij : i ≤ j) (hi : i ≤ x.cps.toList.length) : Txt.slice x (some (i : Int)) (some (j : Int)) = ⟨((x.cps.toList.drop i).take (j - i)).toArray⟩ := by
  by_cases hj : j ≤ x.cps.toList.length
  · have := beq_iff_eq.mp (slice_closes (x := x) (i := (i : Int)) (j := (j : Int)) (by omega))
    rw [this, show ((j : Int) - (i : Int)).toNat = j - i from by omega, Int.toNat_natCast]
  · have hx : x.length = x.cps.toList.length := by simp [Str.length]
    have e : Txt.slice x (some (i : Int)) (some (j : Int)) = Txt.slice x (some (i : Int)) (some (x.length : Int)) := by
      unfold Txt.slice
      rw [sliceIdx_hi _ (by omega)]
    have := beq_iff_eq.mp (slice_closes (x := x) (i := (i : Int)) (j := (x.length : Int)) (by omega))
    rw [e, this, hx, show ((x.cps.toList.length : Int) - (i : Int)).toNat = x.cps.toList.length - i from by omega, Int.toNat_natCast,
      List.take_of_length_le (by rw [List.length_drop]; exact Nat.le_refl _), List.take_of_length_le (by rw [List.length_drop]; omega)]
section
variable {prog : Program} {w : World} {A : Around} {E : Value → Shared → Prop} {s : Shared} {env : Env} {g : Heap} {L : Addr} {m : Str → Option Value} {news : List (Addr × Obj)} {R : Result → Shared → Prop}
theorem r_sliceAny {value lo hi : Expr} {ps : Pos} {x : Str} {i j : Nat} {z : List Nat} {t ui uj tk : Tok} {h0 : Heap} {gn : Array GenState} {dr : Drawn} {os : OsState} {Q : Value → Shared → Prop} (F : Fr g L h0 m) (N : News g L h0 news) (hij : i ≤ j) (hle : i ≤ x.cps.toList.length) (hz : x.length ≤ 10000000)
    (e : (x.cps.toList.drop i).take (j - i) = z) (h : ∀ h' t' k, Fr g L h' m → News g L h' news → Q (.str (S z) t') ⟨h', gn, dr, k, os⟩)
    (hs : subscripted (.Slice (some lo) (some hi) none ps) false (.str x t) (.ref h0.objs.size) = operate [.ref h0.objs.size, .str x t] (getItem (.str x t) (.ref h0.objs.size)) := by with_unfolding_all rfl)
    (ht : ∀ r, letTemporaryGo value (.str x t) r = pure () := by intro _; with_unfolding_all rfl) :
    wpAny (model prog w) A (subscriptTail value (.Slice (some lo) (some hi) none ps) (.str x t) (.ref h0.objs.size)) Q E ⟨h0.push { cls := .type "slice", data := .fields #[.int (i : Nat) ui, .int (j : Nat) uj, .none] }, gn, dr, tk, os⟩ := by
  refine slice_strN_ss (s := ⟨h0, gn, dr, tk, os⟩) F N (fun h' t' k F' N' => ?_) hs ht (by rw [sizeLine_eq]; omega)
  rw [slice_any hij hle, e]
  exact h h' t' k F' N'
theorem r_itemT {value slice : Expr} {a : Addr} {vs : List Value} {k : Nat} {u : Tok} {x : Value} {Q : Value → Shared → Prop} (N : News g L s.heap news) (hm : (a, tupO vs) ∈ news)
    (hk : k < 1000000) (hx : vs[k]? = some x) (h : Q x s)
    (hs : subscripted slice false (.ref a) (.int (k : Nat) u) = operate [.ref a, .int (k : Nat) u] (getItem (.ref a) (.int (k : Nat) u)) := by with_unfolding_all rfl) (hg : ∀ r, letTemporaryGo value (.ref a) r = pure () := by intro _; with_unfolding_all rfl) :
    wpAny (model prog w) A (subscriptTail value slice (.ref a) (.int (k : Nat) u)) Q E s := by
  have hl : k < vs.length := by
    rcases Nat.lt_or_ge k vs.length with h | h
    · exact h
    · rw [List.getElem?_eq_none h] at hx; cases hx
  refine item_tupleL (j := k) (News.isTup N hm) (by omega) (by omega) ?_ hx h hs hg
  rw [StrLaws.seqIndex_nonneg (by omega) (by omega), Int.toNat_natCast]
theorem r_itemD {value slice : Expr} {l : Addr} {vs : List Value} {n : Nat} {k : Nat} {u : Tok} {x : Value} {Q : Value → Shared → Prop} (N : News g L s.heap news) (hm : (l, listOf (List.toArray vs) n) ∈ news)
    (hk : k < 1000000) (hx : vs[k]? = some x) (h : Q x s)
    (hs : subscripted slice false (.ref l) (.int (k : Nat) u) = operate [.ref l, .int (k : Nat) u] (getItem (.ref l) (.int (k : Nat) u)) := by with_unfolding_all rfl) :
    wpAny (model prog w) A (subscriptTail value slice (.ref l) (.int (k : Nat) u)) Q E s :=
  tail_any (News.isList N hm).typeIs PySem.F.slot_list_getitem.lookup (wpAny_getItem_list (News.isList N hm) (by omega) (by omega) (by simpa using hx) h) hs
/-- an end, told as a number -/
def encE : Option Nat → Int
  | some q => nI q
  | none => -1
theorem encE_ge (o : Option Nat) : decide (encE o ≥ 0) = o.isSome := by cases o <;> simp [encE, nI]
theorem encE_lt (o : Option Nat) : decide (encE o < 0) = !o.isSome := by
  cases o with
  | none => rfl
  | some q => exact decide_eq_false (by show ¬ ((q : Int) < 0); omega)
/-- a column of the table -/
def ColAt (news : Led) (v : Value) (n : Nat) (f : Nat → Option Nat) : Prop := ∃ b vs c, v = .ref b ∧ (b, listOf (List.toArray vs) c) ∈ news ∧ IntsAre vs ((List.range n).map fun p => encE (f p))
theorem ColAt.get {news : Led} {v : Value} {n : Nat} {f : Nat → Option Nat} (h : ColAt news v n f) : ∃ b vs c, v = .ref b ∧ (b, listOf (List.toArray vs) c) ∈ news ∧ ∀ p, p < n → ∃ t, vs[p]? = some (.int (encE (f p)) t) := by
  obtain ⟨b, vs, c, e, hm, hi⟩ := h
  exact ⟨b, vs, c, e, hm, fun p hp => IntsAre.get' hi p _ (by simp [hp])⟩
end
end Vy
end
section
open PyProof.V
namespace Vy
section
open PySem.Builtin PySem.Builtin.Str
variable {prog : Program} {w : World} {A : Around} {E : Value → Shared → Prop} {s : Shared} {env : Env} {g : Heap} {L : Addr} {m : Str → Option Value} {news : List (Addr × Obj)} {R : Result → Shared → Prop}
theorem field_zero {id : String} {a : Array Value} {byName : Str → Sem Value} {v : Value} {Q : Value × Numbering → Shared → Prop} (ha : a[0]? = some v)
    (h : Q (v, .manual) s) : wpAny (model prog w) A (fieldObject id (some a) byName [48] .unset) Q E s := by
  unfold fieldObject
  refine wpAny_bind (wpAny_of_eq (a := some 0) rfl ?_)
  refine wpAny_bind (wpAny_of_eq (a := (some 0, .manual)) rfl ?_)
  simp only [ha, pure_bind]
  rw [KPc.range_list]
  exact wpAny_bind (wpAny_pure (wpAny_pure h))
theorem fmt1 {x : Str} {t u : Tok} {Q : Value → Shared → Prop} (hx : x.length ≤ 100000) (h : ∀ t' k, Q (.str (S [40] ++ x ++ S [41]) t') { s with toks := k }) :
    wpAny (model prog w) A (call (.builtin "str.format") [.str "({0})" t, .str x u]) Q E s := by
  refine' KFm.call_k (T := (S [40] ++ x ++ S [41])) ?kfmF ?kfmg ?kfmm ?_
  case kfmF => kfm_eq
  case kfmg => kfm_args
  case kfmm =>
    apply KPc.meets_of
    intro _ _ _ _ _ _ _
    unfold Builtin.«str.format»
    refine wpAny_bind (wpAny_of_eq (a := (_, _, _)) rfl ?_)
    refine wpAny_bind ?_
    unfold Builtin.Str.buildString
    refine wpAny_bind ?_
    rw [KPc.range_list]
    refine KFm.start ?_
    intro _ _
    refine KPc.turn ?_; kpc_if
    kpc_check
    refine wpAny_bind (field_zero (by rfl) ?_)
    refine wpAny_bind (wpAny_holding (wpAny_of_eq (a := _) rfl ?_))
    kpc_if
    refine wpAny_bind (wpAny_pure ?_)
    kfm_val
    refine wpAny_bind (wpAny_of_eq (a := some _) rfl ?_)
    refine wpAny_pure ?_
    refine KFm.after_field (K := 100000) (by kpc_g) (by kpc_text) (by kpc_obj) hx (by kpc_obj) (by kfm_cat2) (by kfm_rest) ?_
    intro _ _
    kfm_turns
  intro t' k
  exact h t' k
end
end Vy
end
section
open PyProof.V
namespace Vy
/-! the trees of the expressions that are made -/
def memT (ts : List Tr) (i : Nat) : Tr := if i % 2 = 1 then .name i else ts.getD i (.name 0)
def trOf (ts : List Tr) : Row → Tr
  | .word x => .word x
  | .all [a, b] => .seq2 (memT ts a) (memT ts b)
  | .all [a, b, c] => .seq3 (memT ts a) (memT ts b) (memT ts c)
  | .any [a, b] => .alt2 (memT ts a) (memT ts b)
  | .any [a, b, c] => .alt3 (memT ts a) (memT ts b) (memT ts c)
  | .neg a => .neg (memT ts a)
  | .look a => .look (memT ts a)
  | _ => .name 0
def trsFrom (ts : List Tr) (rows : List Row) : List Tr := rows.foldl (fun ts r => ts ++ [trOf ts r]) ts
def trs (rows : List Row) : List Tr := trsFrom [] rows
def tr (rows : List Row) (k : Nat) : Tr := (trs rows).getD k (.name 0)
def Shaped : Row → Prop
  | .all ks => ks.length = 2 ∨ ks.length = 3
  | .any ks => ks.length = 2 ∨ ks.length = 3
  | _ => True
theorem trs_snoc (rows : List Row) (r : Row) : trs (rows ++ [r]) = trs rows ++ [trOf (trs rows) r] := by
  unfold trs trsFrom; rw [List.foldl_append]; rfl
theorem trsFrom_pre : ∀ (b : List Row) (ts : List Tr), ∃ more, trsFrom ts b = ts ++ more ∧ more.length = b.length
  | [], ts => ⟨[], by simp [trsFrom], rfl⟩
  | r :: b, ts => by
    obtain ⟨more, e, l⟩ := trsFrom_pre b (ts ++ [trOf ts r])
    refine ⟨trOf ts r :: more, ?_, by simp [l]⟩
    show trsFrom (ts ++ [trOf ts r]) b = _
    rw [e]; simp
theorem trs_length (rows : List Row) : (trs rows).length = rows.length := by
  obtain ⟨more, e, l⟩ := trsFrom_pre rows []
  unfold trs; rw [e]; simpa using l
theorem memT_append {ts more : List Tr} {i : Nat} (h : i < ts.length) : memT (ts ++ more) i = memT ts i := by
  unfold memT; rw [List.getD_eq_getElem?_getD, List.getD_eq_getElem?_getD, List.getElem?_append_left h]
theorem trOf_append {ts more : List Tr} {r : Row} (h : ∀ k ∈ r.kids, k < ts.length) : trOf (ts ++ more) r = trOf ts r := by
  have e : ∀ k ∈ r.kids, memT (ts ++ more) k = memT ts k := fun k hk => memT_append (h k hk)
  match r, e with
  | .word x, _ => rfl
  | .all [a, b], e => simp only [trOf]; rw [e a (by simp [Row.kids]), e b (by simp [Row.kids])]
  | .all [a, b, c], e => simp only [trOf]; rw [e a (by simp [Row.kids]), e b (by simp [Row.kids]), e c (by simp [Row.kids])]
  | .any [a, b], e => simp only [trOf]; rw [e a (by simp [Row.kids]), e b (by simp [Row.kids])]
  | .any [a, b, c], e => simp only [trOf]; rw [e a (by simp [Row.kids]), e b (by simp [Row.kids]), e c (by simp [Row.kids])]
  | .neg a, e => simp only [trOf]; rw [e a (by simp [Row.kids])]
  | .look a, e => simp only [trOf]; rw [e a (by simp [Row.kids])]
  | .all [], _ => rfl
  | .all [_], _ => rfl
  | .all (_ :: _ :: _ :: _ :: _), _ => rfl
  | .any [], _ => rfl
  | .any [_], _ => rfl
  | .any (_ :: _ :: _ :: _ :: _), _ => rfl
theorem tr_append {rows more : List Row} {k : Nat} (h : k < rows.length) : tr (rows ++ more) k = tr rows k := by
  unfold tr trs trsFrom
  rw [List.foldl_append]
  obtain ⟨m2, e, _⟩ := trsFrom_pre more (trs rows)
  show (trsFrom (trs rows) more).getD k _ = (trs rows).getD k _
  rw [e, List.getD_eq_getElem?_getD, List.getD_eq_getElem?_getD, List.getElem?_append_left (by rw [trs_length]; exact h)]
theorem tr_eq {rows : List Row} (wf : WF rows) {k : Nat} {r : Row} (h : rows[k]? = some r) : tr rows k = trOf (trs rows) r := by
  have hk : k < rows.length := by
    rcases Nat.lt_or_ge k rows.length with h' | h'
    · exact h'
    · rw [List.getElem?_eq_none h'] at h; cases h
  have hs : rows = rows.take k ++ (r :: rows.drop (k + 1)) := by
    have e : rows[k] = r := by rw [List.getElem?_eq_getElem hk] at h; exact Option.some.inj h
    have e2 := List.drop_eq_getElem_cons hk
    rw [e] at e2
    rw [← e2, List.take_append_drop]
  have hl : (rows.take k).length = k := by rw [List.length_take]; omega
  have hs2 : rows = (rows.take k ++ [r]) ++ rows.drop (k + 1) := by rw [List.append_assoc]; exact hs
  have hkid : ∀ j ∈ r.kids, j < (trs (rows.take k)).length := fun j hj => by rw [trs_length, hl]; exact wf k r h j hj
  have e1 : tr rows k = trOf (trs (rows.take k)) r := by
    rw [hs2, tr_append (by simp [hl])]
    unfold tr
    rw [trs_snoc, List.getD_eq_getElem?_getD, List.getElem?_append_right (by rw [trs_length, hl]; exact Nat.le_refl _), trs_length, hl, Nat.sub_self]
    simp [hl]
  have e2 : ∃ more, trs rows = trs (rows.take k) ++ more := by
    obtain ⟨m2, e, _⟩ := trsFrom_pre (r :: rows.drop (k + 1)) (trs (rows.take k))
    refine ⟨m2, ?_⟩
    rw [← e]
    show trs rows = _
    conv => lhs; rw [hs]
    unfold trs trsFrom; rw [List.foldl_append]
  obtain ⟨more, e2⟩ := e2
  rw [e1, e2, trOf_append hkid]
theorem memT_eq (rows : List Row) (i : Nat) : memT (trs rows) i = if i % 2 = 1 then .name i else tr rows i := rfl
/-- the name that expression k bears -/
def nmT (k : Nat) : List Nat := if k % 2 = 1 then [110, 48 + k] else []
end Vy
end
section
open PyProof.V
namespace Vy
/-- the object of expression k -/
def ExObj (news : Led) (ads : List Addr) (k : Nat) (dx : Addr) : Row → Obj → Prop
  | .word x, o => ∃ t1 t2 it, o = ⟨.ref 336, some dx, .plain, #[some (.str (S x) t1), some it, some (.str (S (nmT k)) t2)]⟩
  | .all ks, o => ∃ t2 it mt, o = ⟨.ref 394, some dx, .plain, #[some (.ref mt), some it, some (.str (S (nmT k)) t2)]⟩ ∧ (mt, tupO (ks.map fun i => .ref (ads.getD i 0))) ∈ news
  | .any ks, o => ∃ t2 it mt, o = ⟨.ref 420, some dx, .plain, #[some (.ref mt), some it, some (.str (S (nmT k)) t2)]⟩ ∧ (mt, tupO (ks.map fun i => .ref (ads.getD i 0))) ∈ news
  | .neg i, o => ∃ t2 it mt, o = ⟨.ref 458, some dx, .plain, #[some (.bool true), some (.ref mt), some it, some (.str (S (nmT k)) t2)]⟩ ∧ (mt, tupO [.ref (ads.getD i 0)]) ∈ news
  | .look i, o => ∃ t2 it mt, o = ⟨.ref 458, some dx, .plain, #[some (.bool false), some (.ref mt), some it, some (.str (S (nmT k)) t2)]⟩ ∧ (mt, tupO [.ref (ads.getD i 0)]) ∈ news
def Row.cls : Row → Addr
  | .word _ => 336
  | .all _ => 394
  | .any _ => 420
  | .neg _ => 458
  | .look _ => 458
def ExAt (news : Led) (ads : List Addr) (es : List DictEntry) (n : Nat) (k : Nat) (r : Row) : Prop :=
  ∃ dx o, (ads.getD k 0, o) ∈ news ∧ (dx, dictOf es n) ∈ news ∧ ExObj news ads k dx r o
section
variable {prog : Program} {w : World} {A : Around} {E : Value → Shared → Prop} {s : Shared} {env : Env} {g : Heap} {L : Addr} {m : Str → Option Value} {news : List (Addr × Obj)} {R : Result → Shared → Prop}
theorem inst_of {a C dx : Addr} {sl : Array (Option Value)} {od : Obj} (N : News g L s.heap news) (h1 : (a, ⟨.ref C, some dx, .plain, sl⟩) ∈ news) (h2 : (dx, od) ∈ news) : InstAt s.heap a ⟨.ref C, some dx, .plain, sl⟩ C (some od) :=
  ⟨(N _ h1).1, rfl, rfl, (N _ h2).1⟩
theorem ex_name {ads : List Addr} {es : List DictEntry} {n k : Nat} {r : Row} {expr : Bool} {Q : Value → Shared → Prop} (F : Fr g L s.heap m) (X : (hd.heap_39 w.params).In g) (N : News g L s.heap news) (h : ExAt news ads es n k r)
    (q : ∀ t tk, Q (.str (S (nmT k)) t) { s with toks := tk }) : wpAny (model prog w) A (getAttr (.ref (ads.getD k 0)) "name" expr) Q E s := by
  obtain ⟨dx, o, m1, m2, h⟩ := h
  cases r with
  | word x =>
    obtain ⟨t1, t2, it, rfl⟩ := h
    exact get_slot F X (inst_of N m1 m2) (by k_is) (by k_is) (by k_is) (by k_is) (by k_is) (by k_is) rfl rfl (q _ _)
  | all ks =>
    obtain ⟨t2, it, mt, rfl, _⟩ := h
    exact get_slot F X (inst_of N m1 m2) (by k_is) (by k_is) (by k_is) (by k_is) (by k_is) (by k_is) rfl rfl (q _ _)
  | any ks =>
    obtain ⟨t2, it, mt, rfl, _⟩ := h
    exact get_slot F X (inst_of N m1 m2) (by k_is) (by k_is) (by k_is) (by k_is) (by k_is) (by k_is) rfl rfl (q _ _)
  | neg i =>
    obtain ⟨t2, it, mt, rfl, _⟩ := h
    exact get_slot F X (inst_of N m1 m2) (by k_is) (by k_is) (by k_is) (by k_is) (by k_is) (by k_is) rfl rfl (q _ _)
  | look i =>
    obtain ⟨t2, it, mt, rfl, _⟩ := h
    exact get_slot F X (inst_of N m1 m2) (by k_is) (by k_is) (by k_is) (by k_is) (by k_is) (by k_is) rfl rfl (q _ _)
theorem ex_members {ads : List Addr} {es : List DictEntry} {n k : Nat} {r : Row} {expr : Bool} {Q : Value → Shared → Prop} (F : Fr g L s.heap m) (X : (hd.heap_39 w.params).In g) (N : News g L s.heap news) (h : ExAt news ads es n k r)
    (hr : r.cls ≠ 336) (q : ∀ mt tk, (mt, tupO (r.kids.map fun i => .ref (ads.getD i 0))) ∈ news → Q (.ref mt) { s with toks := tk }) : wpAny (model prog w) A (getAttr (.ref (ads.getD k 0)) "members" expr) Q E s := by
  obtain ⟨dx, o, m1, m2, h⟩ := h
  cases r with
  | word x => exact absurd rfl hr
  | all ks =>
    obtain ⟨t2, it, mt, rfl, hm⟩ := h
    exact get_slot F X (inst_of N m1 m2) (by k_is) (by k_is) (by k_is) (by k_is) (by k_is) (by k_is) rfl rfl (q _ _ hm)
  | any ks =>
    obtain ⟨t2, it, mt, rfl, hm⟩ := h
    exact get_slot F X (inst_of N m1 m2) (by k_is) (by k_is) (by k_is) (by k_is) (by k_is) (by k_is) rfl rfl (q _ _ hm)
  | neg i =>
    obtain ⟨t2, it, mt, rfl, hm⟩ := h
    exact get_slot F X (inst_of N m1 m2) (by k_is) (by k_is) (by k_is) (by k_is) (by k_is) (by k_is) rfl rfl (q _ _ hm)
  | look i =>
    obtain ⟨t2, it, mt, rfl, hm⟩ := h
    exact get_slot F X (inst_of N m1 m2) (by k_is) (by k_is) (by k_is) (by k_is) (by k_is) (by k_is) rfl rfl (q _ _ hm)
def Row.rhs : Row → Addr
  | .word _ => 332
  | .all _ => 391
  | .any _ => 417
  | .neg _ => 454
  | .look _ => 454
theorem ex_rhs {ads : List Addr} {es : List DictEntry} {n k : Nat} {r : Row} {pl : Sem Bool} {Q : Value × List Value → Shared → Prop} (F : Fr g L s.heap m) (X : (hd.heap_39 w.params).In g) (N : News g L s.heap news) (h : ExAt news ads es n k r)
    (he : getL "_as_rhs" es = some none) (q : Q (.ref r.rhs, [.ref (ads.getD k 0)]) s) : wpAny (model prog w) A (getMethod (.ref (ads.getD k 0)) "_as_rhs" pl) Q E s := by
  obtain ⟨dx, o, m1, m2, h⟩ := h
  cases r with
  | word x =>
    obtain ⟨t1, t2, it, rfl⟩ := h
    exact method_inst (f := 332) F X (inst_of N m1 m2) (by k_is) (by k_is) (by k_is) he q
  | all ks =>
    obtain ⟨t2, it, mt, rfl, _⟩ := h
    exact method_inst (f := 391) F X (inst_of N m1 m2) (by k_is) (by k_is) (by k_is) he q
  | any ks =>
    obtain ⟨t2, it, mt, rfl, _⟩ := h
    exact method_inst (f := 417) F X (inst_of N m1 m2) (by k_is) (by k_is) (by k_is) he q
  | neg i =>
    obtain ⟨t2, it, mt, rfl, _⟩ := h
    exact method_inst (f := 454) F X (inst_of N m1 m2) (by k_is) (by k_is) (by k_is) he q
  | look i =>
    obtain ⟨t2, it, mt, rfl, _⟩ := h
    exact method_inst (f := 454) F X (inst_of N m1 m2) (by k_is) (by k_is) (by k_is) he q
theorem ex_umem {ads : List Addr} {es : List DictEntry} {n k : Nat} {r : Row} {pl : Sem Bool} {Q : Value × List Value → Shared → Prop} (F : Fr g L s.heap m) (X : (hd.heap_39 w.params).In g) (N : News g L s.heap news) (h : ExAt news ads es n k r)
    (he : getL "_unicode_members" es = some none) (q : Q (.ref 285, [.ref (ads.getD k 0)]) s) : wpAny (model prog w) A (getMethod (.ref (ads.getD k 0)) "_unicode_members" pl) Q E s := by
  obtain ⟨dx, o, m1, m2, h⟩ := h
  cases r with
  | word x =>
    obtain ⟨t1, t2, it, rfl⟩ := h
    exact method_inst F X (inst_of N m1 m2) (by k_is) (by k_is) (by k_is) he q
  | all ks =>
    obtain ⟨t2, it, mt, rfl, _⟩ := h
    exact method_inst F X (inst_of N m1 m2) (by k_is) (by k_is) (by k_is) he q
  | any ks =>
    obtain ⟨t2, it, mt, rfl, _⟩ := h
    exact method_inst F X (inst_of N m1 m2) (by k_is) (by k_is) (by k_is) he q
  | neg i =>
    obtain ⟨t2, it, mt, rfl, _⟩ := h
    exact method_inst F X (inst_of N m1 m2) (by k_is) (by k_is) (by k_is) he q
  | look i =>
    obtain ⟨t2, it, mt, rfl, _⟩ := h
    exact method_inst F X (inst_of N m1 m2) (by k_is) (by k_is) (by k_is) he q
end
end Vy
end
section
open PyProof.V PyProof.Rows.LCg
namespace Vy
section
variable {prog : Program} {w : World} {A : Around} {E : Value → Shared → Prop} {env : Env} {g : Heap} {L : Addr} {m : Str → Option Value} {news : List (Addr × Obj)} {R : Result → Shared → Prop}
theorem isTup_of {s : Heap} {mt : Addr} {vs : List Value} (N : News g L s news) (hm : (mt, tupO vs) ∈ news) : s.IsTuple mt vs.toArray := ⟨_, (N _ hm).1, rfl, 0, rfl⟩
theorem name_comp {M : Model} {x : Str} {px : Pos} {scope : Scope} {cl : List (Str × Addr)} {C : Addr} {oC : Obj} {m₂ : Str → Option Value} {v : Value} {s : Shared} {Q : Value → Shared → Prop} (hN : NsObj oC m₂) (e : s.heap.get? C = some oC) (hx : m₂ x = some v) (h : Q v s)
    (hk : (compEnvC scope cl C env).scope.kind = .function := by rfl) (hl : (compEnvC scope cl C env).kindOf x = some .local := by rfl) (hd : (x == ("__debug__" : Str)) = false := by decide) :
    wpAny M A (eval (.Name x px) (compEnvC scope cl C env)) Q E s := wpAny_Name (wpAny_loadName_local hk hl (hN.ns e) hx h) hd
theorem r_truthyS {x : List Nat} {t : Tok} {s : Shared} {Q : Bool → Shared → Prop} (hl : x.length ≤ 1000000) (h : ∀ k, Q (!x.isEmpty) { s with toks := k }) : wpAny (model prog w) A (truthy (.str (S x) t)) Q E s := by
  first | with_reducible refine P.truthy_str (by rw [S_len]; omega) ?_ | refine P.truthy_str (by rw [S_len]; omega) ?_
  have e : (((S x).length : Int) != 0) = !x.isEmpty := by rw [S_len]; cases x <;> simp <;> omega
  rw [e]; exact h _
theorem comp_rest {elt : Expr} {x : Str} {scope : Scope} {cl : List (Str × Addr)} {s : Shared} {Y : Nat → Value → Prop} {mt : Addr} {vs : List Value} {Fin : List Value → List (Addr × Obj) → Prop} (hm : (mt, tupO vs) ∈ news)
    (body : ∀ i v C oC m₂ h tk (news2 : Led) E', vs[i]? = some v → (C, oC) ∈ news2 → NsObj oC m₂ → m₂ x = some v → Fr g L h m → News g L h news2 → (∀ p ∈ news, p ∈ news2) →
      wpAny (model prog w) A (eval elt (compEnvC scope cl C env)) (fun y s₂ => ∃ h' tk', s₂ = { s with heap := h', toks := tk' } ∧ Fr g L h' m ∧ News g L h' news2 ∧ Y i y) E' { s with heap := h, toks := tk })
    (fin : ∀ ys, ys.length = vs.length → (∀ i y, ys[i]? = some y → Y i y) → Fin ys news) :
    ∀ (k i : Nat) (ys : List Value), i + k = vs.length → ys.length = i → (∀ j y, ys[j]? = some y → Y j y) →
      CompRest prog w A g L m env elt x scope cl s (fun n => (mt, tupO vs) ∈ n) (fun i v => vs.toArray[i]? = some v) Fin k i ys news
  | 0, i, ys, h1, h2, hy => CompRest.zero (fin ys (by omega) hy)
  | k + 1, i, ys, h1, h2, hy => by
    refine CompRest.succ fun v I oI C oC D m₂ h tk E' hP hN hx F N off ne => ?_
    refine wpAny_mono (body i v C oC m₂ h tk _ E' (by simpa using hP) (List.mem_cons_of_mem _ (List.mem_cons_self)) hN hx F N fun p hp => List.mem_cons_of_mem _ (List.mem_cons_of_mem _ (List.mem_cons_of_mem _ hp))) ?_ fun _ _ e => e
    rintro y s₂ ⟨h', tk', rfl, F', N', hY⟩
    refine ⟨h', tk', news, rfl, F', N', off, hm, comp_rest hm body fin k (i + 1) (ys ++ [y]) (by omega) (by simp [h2]) fun j y' hj => ?_⟩
    rcases Nat.lt_trichotomy j ys.length with l | l | l
    · rw [List.getElem?_append_left l] at hj; exact hy j y' hj
    · subst l; rw [List.getElem?_append_right (Nat.le_refl _), Nat.sub_self] at hj; cases hj; exact h2 ▸ hY
    · rw [List.getElem?_eq_none (by simp; omega)] at hj; cases hj
theorem comp_tup {elt iter : Expr} {x : Str} {px : Pos} {scope : Scope} {cl : List (Str × Addr)} {pos : Pos} {Q : Value → Shared → Prop} {s : Shared} {Y : Nat → Value → Prop}
    (F₀ : Fr g L s.heap m) (hclos : closureFor scope env = pure cl) (hcell : ∀ y ∈ scope.names, y.2 ≠ .cell) (hkind : scope.kind = .function)
    (hnames : ∀ y ∈ scope.names, y.2 = .local → scope.names.lookup y.1 = some .local) (hx : scope.names.lookup x = some .local)
    (h : wpAny (model prog w) A (eval iter env) (fun xv s₁ => ∃ mt vs, xv = .ref mt ∧ A.handled = none ∧ Fr g L s₁.heap m ∧ News g L s₁.heap news ∧ (mt, tupO vs) ∈ news ∧ vs.length ≤ 1000 ∧
      (∀ i v C oC m₂ h tk (news2 : Led) E', vs[i]? = some v → (C, oC) ∈ news2 → NsObj oC m₂ → m₂ x = some v → Fr g L h m → News g L h news2 → (∀ p ∈ news, p ∈ news2) →
        wpAny (model prog w) A (eval elt (compEnvC scope cl C env)) (fun y s₂ => ∃ h' tk', s₂ = { s₁ with heap := h', toks := tk' } ∧ Fr g L h' m ∧ News g L h' news2 ∧ Y i y) E' { s₁ with heap := h, toks := tk }) ∧
      (∀ D ys h tk, ys.length = vs.length → (∀ i y, ys[i]? = some y → Y i y) → Fr g L h m → News g L h ((D, lst ys) :: news) → Q (.ref D) { s₁ with heap := h, toks := tk })) E s)
    (hs : ∀ x, foldedSetIterable iter env x = pure x := by intro _; rfl) :
    wpAny (model prog w) A (eval (.ListComp elt [⟨.Name x px, iter, [], 0⟩] scope pos) env) Q E s := by
  rw [eval_ListComp]
  refine wpAny_comprehension_free (use := none) rfl hs hclos hkind hnames (wpAny_mono h (fun xv s₁ h₁ => ?_) fun _ _ e => e)
  obtain ⟨mt, vs, rfl, hh, F, N, hm, hsz, body, fin⟩ := h₁
  have hl := isTup_of N hm
  have hlt : mt < s₁.heap.objs.size := by obtain ⟨_, e, _⟩ := hl; exact Heap.lt_size e
  refine wpAny_pyIter_tuple hl ?_
  have up : ∀ b o, s₁.heap.get? b = some o → (s₁.heap.push { cls := .type "tuple_iterator", data := .fields #[.ref mt, .int 0 0] }).get? b = some o := fun b o e => Heap.get?_push_of_some _ e
  refine block_U (S := fun n => (mt, tupO vs) ∈ n) (Fin := FinE g L m { s₁ with heap := s₁.heap.push { cls := .type "tuple_iterator", data := .fields #[.ref mt, .int 0 0] } } Q) (Walks.tuple hh s₁.heap.objs.size mt (Nat.ne_of_lt hlt) vs.toArray) (by rw [List.size_toArray, sizeLine_eq]; omega) (fun i h st => by obtain ⟨o, e, _⟩ := st.1; exact ⟨o, e⟩) ?_ hcell hkind hx ⟨⟨_, Heap.get?_push_size _ rfl, rfl, rfl⟩, hl.push _⟩ (fun b hb => ?_)
    (F.keeps up) (N.grown up) (Nat.ne_of_lt F.ns.lt) (next_is_new F) (fun p hp => Nat.ne_of_lt (Heap.lt_size (N p hp).1)) hm (comp_rest (s := { s₁ with heap := s₁.heap.push { cls := .type "tuple_iterator", data := .fields #[.ref mt, .int 0 0] } }) hm (fun i v C oC m₂ h tk news2 E' => body i v C oC m₂ h tk news2 E') ?_ vs.toArray.size 0 [] (by simp) rfl (fun j y hj => by simp at hj)) ?_
  · exact fun i h h' o nw st e e' k N S => ⟨by obtain ⟨o', q, r⟩ := st.1; rw [e] at q; cases q; exact ⟨o, e', r⟩, isTup_of N S⟩
  · show b < (s₁.heap.push _).objs.size
    rw [Heap.size_push]
    rcases List.mem_cons.mp hb with rfl | hb
    · exact Nat.lt_succ_self _
    · rw [List.mem_singleton.mp hb]; exact Nat.lt_succ_of_lt hlt
  · intro ys hl hy D h tk F' N' o1
    exact fin D ys h tk hl hy F' N'
  · intro D C h tk m' ys news' F' N' o1 hn hC₀ hD₀ hCL hDL hCD offC fin
    refine ⟨m', hn, fun h'' hs'' => fin D h'' tk (F'.change hs'' hCL hC₀) (fun p hp => ?_) o1⟩
    refine ⟨hs''.extBut _ _ ?_ (N' p hp).1, (N' p hp).2⟩
    rcases List.mem_cons.mp hp with rfl | hp
    · exact Ne.symm hCD
    · exact offC p hp
end
end Vy
end
section
open PyProof.V PyProof.Rows.LCg
namespace Vy
/-- what _as_rhs of expression k answers -/
def RhsSpec (prog : Program) (w : World) (exs : List Row) (k : Nat) (r : Row) : Prop :=
  ∀ {A : Around} {env : Env} {g : Heap} {L : Addr} {m : Str → Option Value} {news : List (Addr × Obj)} {s : Shared} {R : Result → Shared → Prop} {ads : List Addr},
    Gd w A env g L → Fr g L s.heap m → News g L s.heap news → A.depth + 2 * k + 2 < recursionLimit → A.handled = none →
    (∀ j rj, j ≤ k → exs[j]? = some rj → ExAt news ads [] 0 j rj) → (∀ j, j ≤ k → (render (tr exs j)).length ≤ 20000) →
    (∀ h' t tk, Fr g L h' m → News g L h' news → R (.ok (.ret (.str (S (render (tr exs k))) t))) { s with heap := h', toks := tk }) →
    codeAny (model prog w) A (.call (.ref r.rhs) ⟨[.ref (ads.getD k 0)], []⟩) R s
theorem ExAt.sup {news news' : Led} {ads : List Addr} {es : List DictEntry} {n k : Nat} {r : Row} (h : ExAt news ads es n k r) (sub : ∀ p ∈ news, p ∈ news') : ExAt news' ads es n k r := by
  obtain ⟨dx, o, m1, m2, h⟩ := h
  refine ⟨dx, o, sub _ m1, sub _ m2, ?_⟩
  cases r with
  | word x => exact h
  | all ks => obtain ⟨t2, it, mt, e, hm⟩ := h; exact ⟨t2, it, mt, e, sub _ hm⟩
  | any ks => obtain ⟨t2, it, mt, e, hm⟩ := h; exact ⟨t2, it, mt, e, sub _ hm⟩
  | neg i => obtain ⟨t2, it, mt, e, hm⟩ := h; exact ⟨t2, it, mt, e, sub _ hm⟩
  | look i => obtain ⟨t2, it, mt, e, hm⟩ := h; exact ⟨t2, it, mt, e, sub _ hm⟩
section
variable {prog : Program} {w : World}
theorem keep_rhs (r : Row) : keepIn (hd.heap_39 w.params) (.ref r.rhs) = true := by
  cases r with
  | word x => show keepIn (hd.heap_39 w.params) (.ref 332) = true; k_is
  | all x => show keepIn (hd.heap_39 w.params) (.ref 391) = true; k_is
  | any x => show keepIn (hd.heap_39 w.params) (.ref 417) = true; k_is
  | neg x => show keepIn (hd.heap_39 w.params) (.ref 454) = true; k_is
  | look x => show keepIn (hd.heap_39 w.params) (.ref 454) = true; k_is
theorem umem_spec {exs : List Row} {k : Nat} {r : Row} (wf : WF exs) (hk : exs[k]? = some r) (hc : r.cls ≠ 336) (IH : ∀ i ∈ r.kids, ∀ ri, exs[i]? = some ri → RhsSpec prog w exs i ri)
    {A : Around} {env : Env} {g : Heap} {L : Addr} {m : Str → Option Value} {news : List (Addr × Obj)} {s : Shared} {R : Result → Shared → Prop} {ads : List Addr}
    (G : Gd w A env g L) (F : Fr g L s.heap m) (N : News g L s.heap news) (hdep : A.depth + 2 * k + 1 < recursionLimit) (hhan : A.handled = none)
    (hex : ∀ j rj, j ≤ k → exs[j]? = some rj → ExAt news ads [] 0 j rj) (hlen : ∀ j, j < k → (render (tr exs j)).length ≤ 20000) (hkl : r.kids.length ≤ 3)
    (hret : ∀ l (vs : List Value) h' tk, Fr g L h' m → News g L h' ((l, lst vs) :: news) → vs.length = r.kids.length → (∀ (j : Nat) (y : Value), vs[j]? = some y → ∃ i t, r.kids[j]? = some i ∧ y = Value.str (S (render (memT (trs exs) i))) t) → R (.ok (.ret (.ref l))) { s with heap := h', toks := tk }) :
    codeAny (model prog w) A (.call (.ref 285) ⟨[.ref (ads.getD k 0)], []⟩) R s := by
  obtain ⟨h', gn, dr, tk0, os0⟩ := s
  refine enterN G F N (by k_is) (by k_is) (by omega) (binds := [("self", .ref (ads.getD k 0))]) (BindsTo.of_eq rfl) (locs rfl) (fun g' L' h' G' keep F N lt => ?_) (by decide) rfl rfl rfl
  have ⟨X, ⟨p, loose, mean, mg, mb, T⟩, _, _, _⟩ := G'
  repeat kp_kind "s"
  refine comp_tup (news := news) (Y := fun (j : Nat) (y : Value) => ∃ i t, r.kids[j]? = some i ∧ y = Value.str (S (render (memT (trs exs) i))) t) (cl := []) F (by rfl) (by decide) rfl (by decide) rfl ?_
  repeat kp_kind "s"
  refine ex_members F X N (hex k r (Nat.le_refl _) hk) hc (fun mt tkk hm => ?_)
  refine ⟨mt, _, rfl, hhan, F, N, hm, by simp; omega, ?_, ?_⟩
  · intro i v C oC m₂ h' tkk news2 E' hv hC hNs hx F N sub
    rw [List.getElem?_map] at hv
    obtain ⟨ki, hki, rfl⟩ := Option.map_eq_some_iff.mp hv
    have hlt : ki < k := wf k r hk ki (List.mem_of_getElem? hki)
    have hkl' : k < exs.length := by
      rcases Nat.lt_or_ge k exs.length with h | h
      · exact h
      · rw [List.getElem?_eq_none h] at hk; cases hk
    have hri : exs[ki]? = some exs[ki] := List.getElem?_eq_getElem (by omega)
    have hE : ExAt news2 ads [] 0 ki exs[ki] := (hex ki _ (by omega) hri).sup sub
    refine BoolOp_or ?_
    refine Attribute_Name_ ?_
    refine name_comp hNs (N _ hC).1 hx ?_
    refine ex_name F X N hE (fun t tkk => ?_)
    first | with_reducible refine r_truthyS (by unfold nmT; split <;> simp) (fun tkk => ?_) | refine r_truthyS (by unfold nmT; split <;> simp) (fun tkk => ?_)
    by_cases ho : ki % 2 = 1
    · first | with_reducible refine itT (by simp [nmT, ho]) ?_ | refine itT (by simp [nmT, ho]) ?_
      refine ⟨h', tkk, rfl, F, N, ki, t, hki, ?_⟩
      rw [memT_eq, if_pos ho, nmT, if_pos ho]; rfl
    · refine itF (by simp [nmT, ho]) ?_
      refine BoolOp_one ?_
      refine MethodCall_ ?_
      refine name_comp hNs (N _ hC).1 hx ?_
      refine ex_rhs F X N hE rfl ?_
      refine callWith_K0 (X.keeps F.keep) (keep_rhs _) ?_
      refine wpAny_call ?_
      refine IH ki (List.mem_of_getElem? hki) _ hri G' F N (by rw [depth_deeper]; omega) hhan (fun j rj hj e => (hex j rj (by omega) e).sup sub) (fun j hj => hlen j (by omega)) (fun h' t tkk F N => ?_)
      refine ⟨h', tkk, rfl, F, N, ki, t, hki, ?_⟩
      rw [memT_eq, if_neg ho]
  · intro D ys h' tkk hl hy F N
    kp_kind "k"
    exact hret _ _ _ _ F N (by simpa using hl) hy
end
end Vy
end
section
open PyProof.V PyProof.Rows.LCg PySem.Builtin PySem.Builtin.ObjectAttr
namespace Vy
theorem args_getattr_3 (a b c : Value) : argsOk "getattr" ⟨[a, b, c], []⟩ := by unfold argsOk; kernel_rfl
section
variable {prog : Program} {w : World} {A : Around} {E : Value → Shared → Prop} {s : Shared} {g : Heap} {L : Addr} {m : Str → Option Value} {news : List (Addr × Obj)} {t : Tok} {dflt : Value} {Q : Value → Shared → Prop}
theorem ga3_tail {o name : Value} (h : wpAny (model prog w) A (getAttrBy? o name) (fun r s' => match r with | some v => Q v s' | none => Q dflt s') E s) :
    wpAny (model prog w) A (if ((0 : Nat) == 1) = true then ret dflt else do
      let __do_lift ← getAttrBy? o name
      match __do_lift with
        | some v => ret v
        | none =>
          if ((0 : Nat) == 2) = true then do
            unsupported "getattr:an-optional-look-up-on-a-module-missed-behind-a-descriptor-of-its-type"
            ret dflt
          else ret dflt) (fun fin s' => ∃ v, fin = Fin.done (Flow.ret v) ∧ Q v s') E s := by
  rw [if_neg (by decide)]
  refine wpAny_bind (wpAny_mono h (fun r s' z => ?_) fun _ _ e => e)
  cases r with
  | some v => exact wpAny_pure ⟨_, rfl, z⟩
  | none =>
    show wpAny _ _ (if ((0 : Nat) == 2) = true then _ else _) _ _ _
    rw [if_neg (by decide)]
    exact wpAny_pure ⟨_, rfl, z⟩
theorem ga3_none (hA : A.handled = none) (F : Fr g L s.heap m) (N : News g L s.heap news) (h : ∀ h' tk, Fr g L h' m → News g L h' news → Q dflt { s with heap := h', toks := tk }) :
    wpAny (model prog w) A (call (.builtin "getattr") [.none, .str "name" t, dflt]) Q E s := by
  refine Calls.call_function_entry KB.kind_getattr KB.plain_getattr KB.entry_getattr (args_getattr_3 _ _ _) ?_
  unfold Builtin.«getattr»
  refine wpAny_bind (wpAny_of_eq (a := [.none, .str "name" t, dflt]) (by first | rfl | kernel_rfl) ?_)
  dsimp only
  refine wpAny_bind (wpAny_of_eq (a := ()) (by first | rfl | kernel_rfl) ?_)
  refine wpAny_bind (wpAny_of_eq (a := none) (by first | rfl | kernel_rfl) ?_)
  dsimp only
  refine wpAny_bind (wpAny_of_eq (a := 0) (by first | rfl | kernel_rfl) ?_)
  refine ga3_tail ?_
  obtain ⟨hp, gg, d, tk, os⟩ := s
  have hT : ∀ s' : Shared, s'.TypeIs (.none) "NoneType" := fun _ => rfl
  have f1 := sub_AttributeError
  have f3 := PySem.F.slot_NoneType_getattribute.lookup
  have f4 := PySem.F.slot_NoneType_getattribute.bind (.none)
  have f5 := am_none_getattr_none
  have hmiss : typeLookup (.type "NoneType") "name" = pure none := am_miss_of_fast (by decide +kernel)
  unfold getAttrBy?
  refine wpAny_bind (wpAny_attempt ?_)
  unfold getAttrBy
  repeat (any_goals (first | assumption | ((with_reducible show wpAny _ _ (call (Value.builtin "object.__getattribute__") _ _) _ _ _); refine call_meets PySem.F.slot_NoneType_getattribute (hT _) PySem.F.entry_object_getattribute (PySem.F.args_object_getattribute_2 _ _) (meets_getattribute_miss_none "name" _ hmiss (by decide +kernel)) ⟨hA, fun h' tk' e hx => ?_⟩) | wp_step))
  obtain ⟨t', u', he⟩ := hx.there
  show wpAny _ _ (getattributeRaised _ _ _ _ _ _ _) _ _ _
  unfold getattributeRaised
  repeat (any_goals (first | assumption | wp_step))
  have k := hx.keeps
  exact h _ _ (F.keeps k) (N.grown k)
theorem ga3_instoids {x C : Addr} {ox od : Obj} (X : (hd.heap_39 w.params).In s.heap) (I : InstAt s.heap x ox C (some od)) (hsub : subIn (hd.heap_39 w.params) (.ref C) (.type "module") = some false)
    (h : wpAny (model prog w) A.in1 (getAttrBy? (.ref x) (.str "oids" t)) (fun r s' => match r with | some v => Q v s' | none => Q dflt s') E s) :
    wpAny (model prog w) A (call (.builtin "getattr") [.ref x, .str "oids" t, dflt]) Q E s := by
  refine Calls.call_function_entry KB.kind_getattr KB.plain_getattr KB.entry_getattr (args_getattr_3 _ _ _) ?_
  unfold Builtin.«getattr»
  refine wpAny_bind (wpAny_of_eq (a := [.ref x, .str "oids" t, dflt]) (by first | rfl | kernel_rfl) ?_)
  dsimp only
  refine wpAny_bind (wpAny_of_eq (a := ()) (by first | rfl | kernel_rfl) ?_)
  refine wpAny_bind (wpAny_of_eq (a := none) (by first | rfl | kernel_rfl) ?_)
  dsimp only
  obtain ⟨hh, gg, d, tk, os⟩ := s
  have L0 : Looks (model prog w) hh (isInstance (.ref x) (.type "module")) false := I.type.andThen (looks_subIn X hsub)
  refine wpAny_bind (wpAny_mono (Q := fun r s' => r = 0 ∧ s' = ⟨hh, gg, d, tk, os⟩) ?_ (fun r s' e => ?_) fun _ _ e => e)
  · repeat (first | simp only [Bool.not_false, if_true] | lk)
    first | exact ⟨rfl, rfl⟩ | exact ⟨trivial, rfl⟩ | exact ⟨trivial, trivial⟩ | trivial
  · obtain ⟨rfl, rfl⟩ := e
    exact ga3_tail h
theorem ga3_instname {x C : Addr} {ox od : Obj} (X : (hd.heap_39 w.params).In s.heap) (I : InstAt s.heap x ox C (some od)) (hsub : subIn (hd.heap_39 w.params) (.ref C) (.type "module") = some false)
    (h : wpAny (model prog w) A.in1 (getAttrBy? (.ref x) (.str "name" t)) (fun r s' => match r with | some v => Q v s' | none => Q dflt s') E s) :
    wpAny (model prog w) A (call (.builtin "getattr") [.ref x, .str "name" t, dflt]) Q E s := by
  refine Calls.call_function_entry KB.kind_getattr KB.plain_getattr KB.entry_getattr (args_getattr_3 _ _ _) ?_
  unfold Builtin.«getattr»
  refine wpAny_bind (wpAny_of_eq (a := [.ref x, .str "name" t, dflt]) (by first | rfl | kernel_rfl) ?_)
  dsimp only
  refine wpAny_bind (wpAny_of_eq (a := ()) (by first | rfl | kernel_rfl) ?_)
  refine wpAny_bind (wpAny_of_eq (a := none) (by first | rfl | kernel_rfl) ?_)
  dsimp only
  obtain ⟨hh, gg, d, tk, os⟩ := s
  have L0 : Looks (model prog w) hh (isInstance (.ref x) (.type "module")) false := I.type.andThen (looks_subIn X hsub)
  refine wpAny_bind (wpAny_mono (Q := fun r s' => r = 0 ∧ s' = ⟨hh, gg, d, tk, os⟩) ?_ (fun r s' e => ?_) fun _ _ e => e)
  · repeat (first | simp only [Bool.not_false, if_true] | lk)
    first | exact ⟨rfl, rfl⟩ | exact ⟨trivial, rfl⟩ | exact ⟨trivial, trivial⟩ | trivial
  · obtain ⟨rfl, rfl⟩ := e
    exact ga3_tail h

theorem gab_open {x C : Addr} {ox od : Obj} {name : Str} {expr : Bool} (X : (hd.heap_39 w.params).In s.heap) (I : InstAt s.heap x ox C (some od)) (hga : findIn (hd.heap_39 w.params) (.ref C) "__getattribute__" = some (some (.builtin "object.__getattribute__")))
    (h : wpAny (model prog w) A.in1 (Builtin.«proto.getattr_hooked» ⟨[.ref x, .str name t], []⟩)
      (fun fin s' => match fin with | .done (.ret v) => wpAny (model prog w) A (handedOut v) Q E s' | _ => False) (fun e s' => E e s') s) :
    wpAny (model prog w) A (getAttrBy (.ref x) (.str name t) false expr) Q E s := by
  obtain ⟨hh, g, d, tk, os⟩ := s
  have L0 := I.type (M := model prog w)
  have L1 := looks_findIn (M := model prog w) X hga
  unfold getAttrBy
  refine wpAny_holding (wpAny_bind (L0.at (wpAny_bind (L1.at ?_))))
  show wpAny _ _ (getAttrEveryday _ _ _) _ _ _
  refine wpAny_bind (wpAny_onRaise (wpAny_runValue (codeAny_builtin PySem.F.plainObj_entry_getattr_hooked (wpAny_mono h (fun fin s' z => ?_) fun _ _ z => wpAny_pure z))))
  rcases fin with (_ | _ | _ | _) | _ <;> first | exact z | exact z.elim
theorem ga?_value {x C : Addr} {ox od : Obj} {name : Str} {v : Value} {Q : Option Value → Shared → Prop} (X : (hd.heap_39 w.params).In s.heap) (I : InstAt s.heap x ox C (some od)) (hga : findIn (hd.heap_39 w.params) (.ref C) "__getattribute__" = some (some (.builtin "object.__getattribute__")))
    (hf : findObj (hd.heap_39 w.params) C (some od) name = some (.value v)) (hh : handedIn v = true) (h : Q (some v) s) : wpAny (model prog w) A (getAttrBy? (.ref x) (.str name t)) Q E s := by
  unfold getAttrBy?
  refine wpAny_bind (wpAny_attempt ?_)
  refine gab_open X I hga ?_
  obtain ⟨hh', g, d, tk, os⟩ := s
  have L0 := I.type (M := model prog w)
  have L1 := looks_find (M := model prog w) X I hf
  refine wpAny_bind (wpAny_pure (wpAny_bind (L0.at (wpAny_bind (L1.at ?_)))))
  refine wpAny_pure ?_
  show wpAny _ _ (handedOut v) _ _ _
  rw [handedOut_of hh]; exact wpAny_pure (wpAny_pure h)
theorem ga?_bind {x C : Addr} {ox od : Obj} {name : Str} {g a v : Value} {Q : Option Value → Shared → Prop} (X : (hd.heap_39 w.params).In s.heap) (I : InstAt s.heap x ox C (some od)) (hga : findIn (hd.heap_39 w.params) (.ref C) "__getattribute__" = some (some (.builtin "object.__getattribute__")))
    (hf : findObj (hd.heap_39 w.params) C (some od) name = some (.bind g a)) (hk : findIn (hd.heap_39 w.params) (.ref C) "__getattr__" = some none)
    (h : wpAny (model prog w) A.in1 (call g [a, .ref x, .ref C]) (fun v s' => wpAny (model prog w) A (handedOut v) (fun v s'' => Q (some v) s'') (fun _ _ => False) s') (fun _ _ => False) s) : wpAny (model prog w) A (getAttrBy? (.ref x) (.str name t)) Q E s := by
  unfold getAttrBy?
  refine wpAny_bind (wpAny_attempt ?_)
  refine gab_open X I hga ?_
  obtain ⟨hh', gg, d, tk, os⟩ := s
  have L0 := I.type (M := model prog w)
  have L1 := looks_find (M := model prog w) X I hf
  have L2 := looks_findIn (M := model prog w) X hk
  refine wpAny_bind (wpAny_pure (wpAny_bind (L0.at (wpAny_bind (L1.at (wpAny_bind (L2.at ?_)))))))
  show wpAny _ _ (holding [a] (call g [a, .ref x, .ref C]) >>= ret) _ _ _
  exact wpAny_bind (wpAny_holding (wpAny_mono h (fun v s' z => wpAny_pure (wpAny_mono z (fun _ _ z => wpAny_pure z) fun _ _ z => z.elim)) fun _ _ z => z.elim))
theorem ga?_miss {x C : Addr} {ox od : Obj} {name : Str} {cd : ClassData} {Q : Option Value → Shared → Prop} (hA : A.handled = none) (F : Fr g L s.heap m) (N : News g L s.heap news) (X : (hd.heap_39 w.params).In s.heap) (I : InstAt s.heap x ox C (some od)) (hga : findIn (hd.heap_39 w.params) (.ref C) "__getattribute__" = some (some (.builtin "object.__getattribute__")))
    (hf : findObj (hd.heap_39 w.params) C (some od) name = some .missing) (hk : findIn (hd.heap_39 w.params) (.ref C) "__getattr__" = some none)
    (hC : ((Value.ref C) == .type "builtin_function_or_method") = false) (hc : clsIn (hd.heap_39 w.params) C = some cd) (hcn : cd.name.cps.foldl (fun k c => k + (Str.utf8Of c).length) 0 ≤ 100) (hml : (((s!"'{cd.name.toString}' object has no attribute '" : String) : Str) ++ name ++ "'").length ≤ sizeLine)
    (h : ∀ h' tk, Fr g L h' m → News g L h' news → Q none { s with heap := h', toks := tk }) : wpAny (model prog w) A (getAttrBy? (.ref x) (.str name t)) Q E s := by
  unfold getAttrBy?
  refine wpAny_bind (wpAny_attempt ?_)
  refine gab_open X I hga ?_
  obtain ⟨hh', gg, d, tk, os⟩ := s
  have L0 := I.type (M := model prog w)
  have L1 := looks_find (M := model prog w) X I hf
  have L2 := looks_findIn (M := model prog w) X hk
  have L3 := looks_clsIn (M := model prog w) X hc
  refine wpAny_bind (wpAny_pure (wpAny_bind (L0.at (wpAny_bind (L1.at (wpAny_bind (L2.at ?_)))))))
  show wpAny _ _ (noSuchAttribute _ _) _ _ _
  unfold noSuchAttribute typeNameOfCut shownTypeOf
  refine wpAny_bind (wpAny_bind (wpAny_bind (L0.at ?_)))
  dsimp only
  rw [if_neg (by rw [hC]; decide)]
  refine wpAny_pure ?_
  show wpAny _ _ (typeNameCut 100 (.ref C)) _ _ _
  refine wpAny_bind (L3.at ?_)
  dsimp only
  rw [if_pos hcn]
  refine wpAny_pure ?_
  refine wpAny_raiseAttrError hA (fun h' tk' e hx => ?_) hml
  obtain ⟨t', u', he⟩ := hx.there
  have k := hx.keeps
  show wpAny _ _ (do if ← isInstance (.ref e) (.type "AttributeError") then pure none else throw (.ref e)) _ _ _
  refine wpAny_bind (wpAny_isInstance (T := "AttributeError") ⟨_, he, rfl⟩ sub_AttributeError ?_)
  exact wpAny_pure (h _ _ (F.keeps k) (N.grown k))
end
end Vy
end
section
open PyProof.V PyProof.Rows.LCg
namespace Vy
theorem Gd.under {w : World} {A : Around} {env : Env} {g : Heap} {L : Addr} (G : Gd w A env g L) (i : String) (a : Args) : Gd w (A.under (.builtin i a)) env g L := ⟨G.X, G.T, by
  obtain ⟨A₀, base, outer, B, h⟩ := G.B
  exact ⟨A₀, base, outer, B, h⟩, G.fr, G.fn⟩
section
variable {prog : Program} {w : World} {A : Around} {E : Value → Shared → Prop} {s : Shared} {env : Env} {g : Heap} {L : Addr} {m : Str → Option Value} {news : List (Addr × Obj)} {R : Result → Shared → Prop}
/-- the ledger with one object told ahead -/
theorem split_at {d : Addr} {o : Obj} {h : Heap} (N : News g L h news) (hm : (d, o) ∈ news) : News g L h ((d, o) :: news.filter fun p => decide (p.1 ≠ d)) := fun p hp => by
  rcases List.mem_cons.mp hp with rfl | hp
  · exact N _ hm
  · exact N _ (List.mem_filter.mp hp).1
theorem put_at {d : Addr} {o' : Obj} {h : Heap} (N : News g L h ((d, o') :: news.filter fun p => decide (p.1 ≠ d))) : News g L h (put d o' news) := fun p hp => by
  rcases put_cases hp with rfl | ⟨hp, hn⟩
  · exact N _ (.head _)
  · exact N _ (.tail _ (List.mem_filter.mpr ⟨hp, by simpa using hn⟩))
theorem upd_at {d : Addr} {o o' : Obj} : Upd d o o' ((d, o) :: news.filter fun p => decide (p.1 ≠ d)) ((d, o') :: news.filter fun p => decide (p.1 ≠ d)) := .head fun p hp => by simpa using (List.mem_filter.mp hp).2
theorem r_setSlot {x C dx p i : Nat} {sl sl' : Array (Option Value)} {od : Obj} {name : Str} {v : Value} {Q : Unit → Shared → Prop} (F : Fr g L s.heap m) (X₀ : (hd.heap_39 w.params).In g) (N : News g L s.heap news) (h1 : (x, ⟨.ref C, some dx, .plain, sl⟩) ∈ news) (h2 : (dx, od) ∈ news)
    (hs : findIn (hd.heap_39 w.params) (.ref C) "__setattr__" = some (some (.builtin "object.__setattr__"))) (hp : plainOver (hd.heap_39 w.params) C = true) (ht : takerIn (hd.heap_39 w.params) C name = some (some (.ref p))) (hT : typeIn (hd.heap_39 w.params) (.ref p) = some (.type "member_descriptor")) (hi : slotIn (hd.heap_39 w.params) p C = some i) (hz : i < 1000)
    (e : (sl ++ Array.replicate (i + 1 - sl.size) none).setIfInBounds i (some v) = sl')
    (h : ∀ h', Fr g L h' m → News g L h' (put x ⟨.ref C, some dx, .plain, sl'⟩ news) → Q () { s with heap := h', toks := s.toks + 1 }) : wpAny (model prog w) A (setAttr (.ref x) name v) Q E s :=
  set_slot F X₀ (split_at N h1) (inst_of N h1 h2) hs hp ht hT hi hz (by rw [e]) rfl upd_at fun h' F' N' => h h' F' (put_at N')
theorem r_setHead {x C dx p i : Nat} {sl sl' : Array (Option Value)} {od : Obj} {name : Str} {v : Value} {Q : Unit → Shared → Prop} {rest : Led} (F : Fr g L s.heap m) (X₀ : (hd.heap_39 w.params).In g) (N : News g L s.heap ((x, ⟨.ref C, some dx, .plain, sl⟩) :: rest)) (hne : ∀ p ∈ rest, p.1 ≠ x) (h2 : (dx, od) ∈ rest)
    (hs : findIn (hd.heap_39 w.params) (.ref C) "__setattr__" = some (some (.builtin "object.__setattr__"))) (hp : plainOver (hd.heap_39 w.params) C = true) (ht : takerIn (hd.heap_39 w.params) C name = some (some (.ref p))) (hT : typeIn (hd.heap_39 w.params) (.ref p) = some (.type "member_descriptor")) (hi : slotIn (hd.heap_39 w.params) p C = some i) (hz : i < 1000)
    (e : (sl ++ Array.replicate (i + 1 - sl.size) none).setIfInBounds i (some v) = sl')
    (h : ∀ h', Fr g L h' m → News g L h' ((x, ⟨.ref C, some dx, .plain, sl'⟩) :: rest) → Q () { s with heap := h', toks := s.toks + 1 }) : wpAny (model prog w) A (setAttr (.ref x) name v) Q E s :=
  set_slot F X₀ N (inst_of N (.head _) (.tail _ h2)) hs hp ht hT hi hz (by rw [e]) rfl (.head hne) fun h' F' N' => h h' F' N'
theorem swap2 {a b : Addr × Obj} {r : Led} {h : Heap} (N : News g L h (a :: b :: r)) : News g L h (b :: a :: r) := fun p hp => N p (by
  rcases List.mem_cons.mp hp with rfl | hp
  · exact .tail _ (.head _)
  · rcases List.mem_cons.mp hp with rfl | hp
    · exact .head _
    · exact .tail _ (.tail _ hp))
/-- a node -/
def NodeAt (news : Led) (v : Value) (p q : Nat) : Prop := ∃ a dx ch fe ft t1 t2, v = .ref a ∧ (a, ⟨.ref 212, some dx, .plain, #[ch, some (.int (nI q) t1), fe, ft, some (.int (nI p) t2)]⟩) ∈ news ∧ ∃ od, (dx, od) ∈ news ∧ od.cls = .type "dict"
theorem node_make {ex ft ch : Value} {p0 q : Nat} {t1 t2 : Tok} {kw : List (Str × Value)} {pos : List Value} (hpos : (pos = [ex, ft, .int (nI p0) t1, .int (nI q) t2] ∧ ch = .none ∧ kw = []) ∨ (pos = [ex, ft, .int (nI p0) t1, .int (nI q) t2, ch] ∧ kw = []) ∨ (pos = [ex, ft, .int (nI p0) t1, .int (nI q) t2] ∧ kw = [(("children" : Str), ch)]))
    (hch : ch = .none ∨ ∃ l vs n, ch = .ref l ∧ (l, listOf (List.toArray vs) n) ∈ news ∧ vs.length ≤ 1000)
    (G : Gd w A env g L) (F : Fr g L s.heap m) (N : News g L s.heap news) (hdep : A.depth + 2 < recursionLimit)
    (h : ∀ v h' tk news', Fr g L h' m → News g L h' news' → (∀ p ∈ news, p ∈ news') → NodeAt news' v p0 q → R (.ok (.ret v)) { s with heap := h', toks := tk }) :
    codeAny (model prog w) A (.call (.ref 212) ⟨pos, kw⟩) R s := by
  obtain ⟨h', gn, dr, tk0, os0⟩ := s
  refine make_K (fI := 150) F N (G.X.keeps F.keep) (by k_is) (by k_is) (by k_is) (fun x dx h' F N l1 l2 => ?_)
  have G1 := G.under "type.__call__" ⟨.ref 212 :: pos, kw⟩
  refine enterN G1 F N (by k_is) (by k_is) (by show A.depth + 1 < _; omega) (binds := [("self", .ref x), ("expr", ex), ("full_text", ft), ("start", .int (nI p0) t1), ("end", .int (nI q) t2), ("children", ch)]) ?_ (locs rfl) (fun g' L' h' G' keep F N lt => ?_) (by decide) rfl rfl rfl
  · rcases hpos with ⟨rfl, rfl, rfl⟩ | ⟨rfl, rfl⟩ | ⟨rfl, rfl⟩
    · exact kp_binds (K := hd.heap_39 w.params) (G.X.keeps F.keep) (fun _ => rfl)
    · exact kp_binds (K := hd.heap_39 w.params) (G.X.keeps F.keep) (fun _ => rfl)
    · exact kp_binds (K := hd.heap_39 w.params) (G.X.keeps F.keep) (fun _ => rfl)
  · have ⟨X, ⟨p, loose, mean, mg, mb, T⟩, _, _, _⟩ := G'
    repeat kp_kind "s"
    have hne : ∀ q ∈ (dx, emptyDict) :: news, q.1 ≠ x := fun q hq => by
      rcases List.mem_cons.mp hq with rfl | hq
      · exact Nat.ne_of_lt l2
      · exact Nat.ne_of_lt (Nat.lt_trans (l1 _ hq) l2)
    refine r_setHead (sl' := #[none, none, some ex]) F X N hne (.head _) (by k_is) (by k_is) (by k_is) (by k_is) (by k_is) (by decide) (by rfl) (fun h' F N => ?_)
    repeat kp_kind "s"
    refine r_setHead (sl' := #[none, none, some ex, some ft]) F X N hne (.head _) (by k_is) (by k_is) (by k_is) (by k_is) (by k_is) (by decide) (by rfl) (fun h' F N => ?_)
    repeat kp_kind "s"
    refine r_setHead (sl' := #[none, none, some ex, some ft, some (.int (nI p0) t1)]) F X N hne (.head _) (by k_is) (by k_is) (by k_is) (by k_is) (by k_is) (by decide) (by rfl) (fun h' F N => ?_)
    repeat kp_kind "s"
    refine r_setHead (sl' := #[none, some (.int (nI q) t2), some ex, some ft, some (.int (nI p0) t1)]) F X N hne (.head _) (by k_is) (by k_is) (by k_is) (by k_is) (by k_is) (by decide) (by rfl) (fun h' F N => ?_)
    repeat kp_kind "s"
    refine BoolOp_or ?_
    repeat kp_kind "s"
    rcases hch with rfl | ⟨l, vs, n, rfl, hml, hvl⟩
    · refine truthy_none ?_
      refine itF (by decide) ?_
      refine BoolOp_one ?_
      repeat kp_kind "s"
      refine r_newList F N (by simp) (fun l0 h' F N lc0 => ?_)
      repeat kp_kind "s"
      have N := swap2 N
      have hne2 : ∀ q ∈ (l0, listOf (List.toArray []) 0) :: (dx, emptyDict) :: news, q.1 ≠ x := fun q hq => by
        rcases List.mem_cons.mp hq with rfl | hq
        · exact Ne.symm (Nat.ne_of_lt (lc0 _ (.head _)))
        · exact hne q hq
      refine r_setHead (sl' := #[some (.ref l0), some (.int (nI q) t2), some ex, some ft, some (.int (nI p0) t1)]) F X N hne2 (.tail _ (.head _)) (by k_is) (by k_is) (by k_is) (by k_is) (by k_is) (by decide) (by rfl) (fun h' F N => ?_)
      repeat kp_kind "s"
      kp_kind "k"
      refine ⟨rfl, ?_⟩
      exact h _ _ _ _ F N (fun q hq => .tail _ (.tail _ (.tail _ hq))) ⟨x, dx, _, _, _, _, _, rfl, .head _, emptyDict, .tail _ (.tail _ (.head _)), rfl⟩
    · refine wpAny_truthy_list (News.isList N (.tail _ (.tail _ hml))) (by rw [List.size_toArray]; omega) ?_
      cases vs with
      | nil =>
        refine itF (by simp) ?_
        refine BoolOp_one ?_
        repeat kp_kind "s"
        refine r_newList F N (by simp) (fun l0 h' F N lc0 => ?_)
        repeat kp_kind "s"
        have N := swap2 N
        have hne2 : ∀ q ∈ (l0, listOf (List.toArray []) 0) :: (dx, emptyDict) :: news, q.1 ≠ x := fun q hq => by
          rcases List.mem_cons.mp hq with rfl | hq
          · exact Ne.symm (Nat.ne_of_lt (lc0 _ (.head _)))
          · exact hne q hq
        refine r_setHead (sl' := #[some (.ref l0), some (.int (nI q) t2), some ex, some ft, some (.int (nI p0) t1)]) F X N hne2 (.tail _ (.head _)) (by k_is) (by k_is) (by k_is) (by k_is) (by k_is) (by decide) (by rfl) (fun h' F N => ?_)
        repeat kp_kind "s"
        kp_kind "k"
        refine ⟨rfl, ?_⟩
        exact h _ _ _ _ F N (fun q hq => .tail _ (.tail _ (.tail _ hq))) ⟨x, dx, _, _, _, _, _, rfl, .head _, emptyDict, .tail _ (.tail _ (.head _)), rfl⟩
      | cons v vs =>
        first | with_reducible refine itT (by simp) ?_ | refine itT (by simp) ?_
        repeat kp_kind "s"
        refine r_setHead (sl' := #[some (.ref l), some (.int (nI q) t2), some ex, some ft, some (.int (nI p0) t1)]) F X N hne (.head _) (by k_is) (by k_is) (by k_is) (by k_is) (by k_is) (by decide) (by rfl) (fun h' F N => ?_)
        repeat kp_kind "s"
        kp_kind "k"
        refine ⟨rfl, ?_⟩
        exact h _ _ _ _ F N (fun q hq => .tail _ (.tail _ hq)) ⟨x, dx, _, _, _, _, _, rfl, .head _, emptyDict, .tail _ (.head _), rfl⟩
end
end Vy
end
section
open PyProof.V PyProof.Rows.LCg
namespace Vy
theorem val_stored {kvs : List (Int × Value)} {k k' : Int} {v : Value} : valueAt (stored kvs k v) k' = if k' = k then some v else valueAt kvs k' := by
  have hm : ∀ l : List (Int × Value), valueAt (l.map fun kv => if kv.1 = k then (kv.1, v) else kv) k' = if k' = k then (if l.any (fun kv => kv.1 = k) then some v else none) else valueAt l k' := by
    intro l
    induction l with
    | nil => by_cases e : k' = k <;> simp [valueAt, e]
    | cons a l ih =>
      unfold valueAt at ih ⊢
      by_cases ha : a.1 = k
      · by_cases e : k' = k
        · subst e; simp [ha]
        · have : ¬ k = k' := fun q => e q.symm
          simp [ha, e, this] at ih ⊢
          exact ih
      · by_cases e : k' = k
        · subst e
          have hd : decide (a.1 = k') = false := decide_eq_false ha
          simp only [List.map_cons, if_neg ha, List.find?_cons, hd, if_true, List.any_cons, Bool.false_or] at ih ⊢
          exact ih
        · by_cases ea : a.1 = k'
          · simp [ha, e, ea]
          · simp [ha, e, ea] at ih ⊢; exact ih
  unfold stored
  split
  · rename_i h; rw [hm]; simp [h]
  · rename_i h
    unfold valueAt
    rw [List.find?_append]
    by_cases e : k' = k
    · subst e
      have : kvs.find? (fun kv => decide (kv.1 = k')) = none := by
        rw [List.find?_eq_none]
        intro x hx q
        exact h (List.any_eq_true.mpr ⟨x, hx, q⟩)
      simp [this]
    · have : ¬ k = k' := fun q => e q.symm
      simp [e, this]
theorem len_stored {kvs : List (Int × Value)} {k : Int} {v : Value} : (stored kvs k v).length = if (valueAt kvs k).isSome then kvs.length else kvs.length + 1 := by
  unfold stored
  rw [PyProof.Rows.valueAt_isSome_eq_any]
  split <;> simp
theorem keys_stored {kvs : List (Int × Value)} {k : Int} {v : Value} {P : Int → Prop} (h : ∀ kv ∈ kvs, P kv.1) (hk : P k) : ∀ kv ∈ stored kvs k v, P kv.1 := by
  unfold stored
  split
  · intro kv hkv
    obtain ⟨x, hx, rfl⟩ := List.mem_map.mp hkv
    split <;> exact h x hx
  · intro kv hkv
    rcases List.mem_append.mp hkv with q | q
    · exact h kv q
    · simp at q; subst q; exact hk
theorem nodup_le : ∀ (n : Nat) (l : List Int), l.Nodup → (∀ x ∈ l, 0 ≤ x ∧ x < n) → l.length ≤ n
  | 0, l, _, h => by
    cases l with
    | nil => simp
    | cons a l => have := h a (.head _); omega
  | n + 1, l, hn, h => by
    have ih := nodup_le n (l.erase (n : Int)) (hn.erase _) (fun x hx => by
      have hx' := (hn.mem_erase_iff).mp hx
      have := h x hx'.2
      have := hx'.1
      omega)
    by_cases hm : (n : Int) ∈ l
    · rw [List.length_erase_of_mem hm] at ih; omega
    · rw [List.erase_of_not_mem hm] at ih; omega
/-- a dict by numbers -/
def DicM (prog : Program) (w : World) (n : Led) (d : Addr) (f : Nat → Option Value) (b : Nat) (P : Nat → Prop) : Prop :=
  ∃ o kvs, (d, o) ∈ n ∧ o.IsDictOf (PySem.intKind prog w) kvs ∧ (d == sysModules) = false ∧ (∀ kv ∈ kvs, 0 ≤ kv.1 ∧ kv.1 < (b : Nat)) ∧ (∀ p : Nat, valueAt kvs (p : Int) = f p) ∧ P kvs.length
theorem int_is {prog : Program} {w : World} {k : Int} {t : Tok} : (PySem.intKind prog w).is k (.int k t) = true := PySem.intKind_is _ _ _ _
section
variable {prog : Program} {w : World} {A : Around} {E : Value → Shared → Prop} {s : Shared} {g : Heap} {L d : Addr} {m : Str → Option Value} {news : List (Addr × Obj)} {f : Nat → Option Value} {b : Nat} {P : Nat → Prop}
theorem r_din {p : Nat} {t : Tok} {Q : Value → Shared → Prop} (N : News g L s.heap news) (D : DicM prog w news d f b P) (h : ∀ tk, Q (.bool (f p).isSome) { s with toks := tk }) : wpAny (model prog w) A (compareOp .In (.int (nI p) t) (.ref d)) Q E s := by
  obtain ⟨o, kvs, hp, hd, lo, hk, hf, hP⟩ := D
  exact kda_in N hp hd lo int_is _ (congrArg Option.isSome (hf p)) (h _)
theorem r_dget {p : Nat} {t : Tok} {Q : Value → Shared → Prop} (N : News g L s.heap news) (D : DicM prog w news d f b P) (h : ∀ tk, Q ((f p).getD .none) { s with toks := tk }) : wpAny (model prog w) A (call (.builtin "dict.get") [.ref d, .int (nI p) t]) Q E s := by
  obtain ⟨o, kvs, hp, hd, lo, hk, hf, hP⟩ := D
  exact kdg_get1 N hp hd lo int_is _ (hf p) (h _)
theorem r_dgetM {pl : Sem Bool} {Q : Value × List Value → Shared → Prop} (N : News g L s.heap news) (D : DicM prog w news d f b P) (h : Q (.builtin "dict.get", [.ref d]) s) : wpAny (model prog w) A (getMethod (.ref d) "get" pl) Q E s := by
  obtain ⟨o, kvs, hp, hd, lo, hk, hf, hP⟩ := D
  exact kdg_method N hp hd h
theorem r_ditem {value slice : Expr} {p : Nat} {t : Tok} {v : Value} {Q : Value → Shared → Prop} (N : News g L s.heap news) (D : DicM prog w news d f b P) (hv : f p = some v) (h : ∀ tk, Q v { s with toks := tk })
    (hs : subscripted slice false (.ref d) (.int (nI p) t) = operate [.ref d, .int (nI p) t] (getItem (.ref d) (.int (nI p) t)) := by with_unfolding_all rfl) (hg : ∀ r, letTemporaryGo value (.ref d) r = pure () := by intro _; with_unfolding_all rfl) : wpAny (model prog w) A (subscriptTail value slice (.ref d) (.int (nI p) t)) Q E s := by
  obtain ⟨o, kvs, hp, hd, lo, hk, hf, hP⟩ := D
  exact kda_item N hp hd int_is ((hf p).trans hv) (h _) hs hg
theorem r_dlen {c : Nat} {Q : Value → Shared → Prop} (N : News g L s.heap news) (D : DicM prog w news d f b (fun l => l = c)) (hc : c ≤ 1000) (h : ∀ t tk, Q (.int (nI c) t) { s with toks := tk }) : wpAny (model prog w) A (call (.builtin "len") [.ref d]) Q E s := by
  obtain ⟨o, kvs, hp, hd, lo, hk, hf, hP⟩ := D
  refine kda_len N hp hd lo (by omega) ?_
  rw [hP]; exact h _ _
theorem r_dset {p b' : Nat} {t : Tok} {v : Value} {P' : Nat → Prop} {Q : Unit → Shared → Prop} (F : Fr g L s.heap m) (N : News g L s.heap news) (D : DicM prog w news d f b P) (hb : b ≤ b') (hpb : p < b') (hb2 : b ≤ 10000) (hP : ∀ l, P l → P' (if (f p).isSome then l else l + 1))
    (h : ∀ h' o' tk, Fr g L h' m → News g L h' (put d o' news) → o'.cls = .type "dict" → DicM prog w (put d o' news) d (fun q => if q = p then some v else f q) b' P' → Q () { s with heap := h', toks := tk }) :
    wpAny (model prog w) A (setItem (.ref d) (.int (nI p) t) v) Q E s := by
  obtain ⟨o, kvs, hp, hd, lo, hk, hf, hPl⟩ := D
  have hlen : kvs.length ≤ b := by
    have nd : (kvs.map (·.1)).Nodup := by obtain ⟨_, _, _, _, _, _, x⟩ := hd; exact x
    have := nodup_le b (kvs.map (·.1)) nd (fun x hx => by obtain ⟨kv, hkv, rfl⟩ := List.mem_map.mp hx; exact hk kv hkv)
    simpa using this
  refine wpAny_setItem_pairs (hsz := by rw [sizeLine_eq]; omega) (k := nI p) int_is (kda_dict N hp hd) fun h' hmm hs => ?_
  obtain ⟨o', ho', hd'⟩ := Heap.dictOf_iff.mp hmm
  have U := upd_put F N hp hs ho'
  refine h h' o' _ U.1 U.2 ?_ ⟨o', _, put_self hp, hd', lo, keys_stored (P := fun x => 0 ≤ x ∧ x < (b' : Nat)) (fun kv q => by have := hk kv q; show 0 ≤ kv.1 ∧ kv.1 < (b' : Nat); omega) (by show 0 ≤ ((p : Nat) : Int) ∧ ((p : Nat) : Int) < (b' : Nat); omega), fun q => ?_, ?_⟩
  · obtain ⟨_, _, ⟨x, _⟩, _⟩ := hd'; exact x
  · rw [val_stored, hf q]
    by_cases e : q = p
    · subst e; simp
    · have : ¬ ((q : Int) = nI p) := by simp only [nI]; omega
      simp [e, this]
  · rw [len_stored]
    have : (valueAt kvs (nI p)).isSome = (f p).isSome := congrArg Option.isSome (hf p)
    rw [this]; exact hP _ hPl
end
end Vy
end
section
open PyProof.V PyProof.Rows.LCg
namespace Vy
/-- what is fixed in one match -/
structure Mx where
  exs : List Row
  ads : List Addr
  dxs : List Addr
  txt : List Nat
  cache : Addr
  err : Addr
  ed : Addr
/-- one memo -/
structure En where
  own : Nat
  d : Addr
  f : Nat → Option Value
structure Gs where
  C : List En
  olds : Nat → List (Nat × Addr)
def Mx.W (x : Mx) (σ : Gs) (a : Addr) : Prop := a ∈ x.dxs ∨ a = x.cache ∨ a = x.ed ∨ ∃ e ∈ σ.C, e.d = a
def isD (o : Obj) : Prop := o.cls = .type "dict"
def Keep (x : Mx) (σ : Gs) (n n' : Led) : Prop := (∀ p ∈ n, ∃ o, (p.1, o) ∈ n' ∧ (isD p.2 → isD o)) ∧ ∀ p ∈ n, (¬ isD p.2 ∨ ¬ x.W σ p.1) → p ∈ n'
theorem Keep.refl {x : Mx} {σ : Gs} {n : Led} : Keep x σ n n := ⟨fun p hp => ⟨p.2, hp, id⟩, fun p hp _ => hp⟩
theorem Keep.sup {x : Mx} {σ : Gs} {n n' : Led} (h : ∀ p ∈ n, p ∈ n') : Keep x σ n n' := ⟨fun p hp => ⟨p.2, h p hp, id⟩, fun p hp _ => h p hp⟩
def ValOk (n : Led) (o : Option Nat) (p : Nat) (v : Value) : Prop := match o with
  | none => v = .none
  | some q => NodeAt n v p q
theorem tup_nd {vs : List Value} : ¬ isD (tupO vs) := fun q => by
  have q : Value.type "tuple" = Value.type "dict" := q
  injection q with q; exact absurd q (by decide)
theorem NodeAt.keep {x : Mx} {σ : Gs} {n n' : Led} {v : Value} {p q : Nat} (h : NodeAt n v p q) (k : Keep x σ n n') : NodeAt n' v p q := by
  obtain ⟨a, dx, ch, fe, ft, t1, t2, e, h1, od, h2, h3⟩ := h
  obtain ⟨o, m, q⟩ := k.1 _ h2
  exact ⟨a, dx, ch, fe, ft, t1, t2, e, k.2 _ h1 (.inl fun q => by cases q), o, m, q h3⟩
theorem ValOk.keep {x : Mx} {σ : Gs} {n n' : Led} {o : Option Nat} {p : Nat} {v : Value} (h : ValOk n o p v) (k : Keep x σ n n') : ValOk n' o p v := by
  cases o with
  | none => exact h
  | some q => exact NodeAt.keep h k
def EAt (n : Led) (x : Mx) (k : Nat) (r : Row) : Prop := ∃ o, (x.ads.getD k 0, o) ∈ n ∧ ExObj n x.ads k (x.dxs.getD k 0) r o
theorem EAt.keep {x : Mx} {σ : Gs} {n n' : Led} {k : Nat} {r : Row} (h : EAt n x k r) (kp : Keep x σ n n') : EAt n' x k r := by
  obtain ⟨o, m1, h⟩ := h
  have kt : ∀ a vs, (a, tupO vs) ∈ n → (a, tupO vs) ∈ n' := fun a vs h => kp.2 _ h (.inl tup_nd)
  cases r with
  | word y => obtain ⟨t1, t2, it, rfl⟩ := h; exact ⟨_, kp.2 _ m1 (.inl fun q => by cases q), t1, t2, it, rfl⟩
  | all ks => obtain ⟨t2, it, mt, rfl, hm⟩ := h; exact ⟨_, kp.2 _ m1 (.inl fun q => by cases q), t2, it, mt, rfl, kt _ _ hm⟩
  | any ks => obtain ⟨t2, it, mt, rfl, hm⟩ := h; exact ⟨_, kp.2 _ m1 (.inl fun q => by cases q), t2, it, mt, rfl, kt _ _ hm⟩
  | neg i => obtain ⟨t2, it, mt, rfl, hm⟩ := h; exact ⟨_, kp.2 _ m1 (.inl fun q => by cases q), t2, it, mt, rfl, kt _ _ hm⟩
  | look i => obtain ⟨t2, it, mt, rfl, hm⟩ := h; exact ⟨_, kp.2 _ m1 (.inl fun q => by cases q), t2, it, mt, rfl, kt _ _ hm⟩
theorem EAt.ex {x : Mx} {n : Led} {k c : Nat} {r : Row} {es : List DictEntry} (h : EAt n x k r) (hd : (x.dxs.getD k 0, dictOf es c) ∈ n) : ExAt n x.ads es c k r := by
  obtain ⟨o, m1, h⟩ := h
  exact ⟨_, o, m1, hd, h⟩
/-- the pairs an expression bears -/
def OidsAt (n : Led) (es : List DictEntry) (l : List (Nat × Addr)) : Prop := (es = [] ∧ l = []) ∨ ∃ h t tp ps, es = [⟨h, .str "oids" t, .ref tp⟩] ∧ (tp, tupO (ps.map .ref)) ∈ n ∧ All2 (fun a (ic : Nat × Addr) => ∃ t, (a, tupO [.int (nI ic.1) t, .ref ic.2]) ∈ n) ps l ∧ l ≠ []
theorem OidsAt.keep {x : Mx} {σ : Gs} {n n' : Led} {es : List DictEntry} {l : List (Nat × Addr)} (h : OidsAt n es l) (kp : Keep x σ n n') : OidsAt n' es l := by
  rcases h with h | ⟨h, t, tp, ps, e, hm, ha, hl⟩
  · exact .inl h
  · exact .inr ⟨h, t, tp, ps, e, kp.2 _ hm (.inl tup_nd), ha.mono fun a b ⟨t, q⟩ => ⟨t, kp.2 _ q (.inl tup_nd)⟩, hl⟩
def curFrom : Nat → List En → Nat → List (Nat × Addr)
  | _, [], _ => []
  | i, e :: r, j => if e.own = j then [(i, e.d)] else curFrom (i + 1) r j
def curOf (C : List En) (j : Nat) : List (Nat × Addr) := curFrom 0 C j
theorem cur_none : ∀ {C : List En} {i j : Nat}, (∀ e ∈ C, e.own ≠ j) → curFrom i C j = []
  | [], _, _, _ => rfl
  | e :: r, i, j, h => by
    unfold curFrom
    rw [if_neg (h e (.head _))]
    exact cur_none fun e he => h e (.tail _ he)
theorem cur_some : ∀ {C : List En} {i j : Nat}, (∃ e ∈ C, e.own = j) → ∃ k e, C[k]? = some e ∧ e.own = j ∧ curFrom i C j = [(i + k, e.d)]
  | [], _, _, h => by obtain ⟨e, he, _⟩ := h; cases he
  | e :: r, i, j, h => by
    by_cases q : e.own = j
    · exact ⟨0, e, rfl, q, by unfold curFrom; rw [if_pos q]; rfl⟩
    · have h' : ∃ e ∈ r, e.own = j := by
        obtain ⟨a, ha, hq⟩ := h
        rcases List.mem_cons.mp ha with rfl | ha
        · exact absurd hq q
        · exact ⟨a, ha, hq⟩
      obtain ⟨k, a, hk, ho, hc⟩ := cur_some (i := i + 1) h'
      refine ⟨k + 1, a, by simpa using hk, ho, ?_⟩
      unfold curFrom
      rw [if_neg q, hc, show i + 1 + k = i + (k + 1) from by omega]
theorem cur_snoc : ∀ {C : List En} {i j : Nat} {e : En}, curFrom i (C ++ [e]) j = if (∀ a ∈ C, a.own ≠ j) ∧ e.own = j then [(i + C.length, e.d)] else curFrom i C j := by
  intro C i j e
  by_cases h : ∃ a ∈ C, a.own = j
  · rw [if_neg (fun q => by obtain ⟨a, ha, hq⟩ := h; exact q.1 a ha hq)]
    induction C generalizing i with
    | nil => obtain ⟨a, ha, _⟩ := h; cases ha
    | cons a r ih =>
      show curFrom i (a :: (r ++ [e])) j = _
      unfold curFrom
      by_cases q : a.own = j
      · rw [if_pos q, if_pos q]
      · rw [if_neg q, if_neg q]
        refine ih ?_
        obtain ⟨b, hb, hq⟩ := h
        rcases List.mem_cons.mp hb with rfl | hb
        · exact absurd hq q
        · exact ⟨b, hb, hq⟩
  · have h1 : ∀ a ∈ C, a.own ≠ j := fun a ha q => h ⟨a, ha, q⟩
    have h2 : curFrom i (C ++ [e]) j = curFrom (i + C.length) [e] j := by
      clear h
      induction C generalizing i with
      | nil => rfl
      | cons a r ih =>
        show curFrom i (a :: (r ++ [e])) j = _
        rw [curFrom, if_neg (h1 a (.head _)), ih fun b hb => h1 b (.tail _ hb)]
        simp only [List.length_cons]
        rw [show i + 1 + r.length = i + (r.length + 1) from by omega]
    rw [h2]
    by_cases q : e.own = j
    · rw [if_pos ⟨h1, q⟩]; unfold curFrom; rw [if_pos q]
    · rw [if_neg fun z => q z.2, cur_none h1]; unfold curFrom; rw [if_neg q]; rfl
def ErrAt (n : Led) (x : Mx) : Prop := (∃ oE, (x.err, oE) ∈ n ∧ oE.cls = .ref 94 ∧ oE.dict = some x.ed ∧ notCls oE = true) ∧
  ∃ h1 h2 h3 t1 t2 t3 v1 i t v3, (x.ed, dictOf [⟨h1, .str "text" t1, v1⟩, ⟨h2, .str "pos" t2, .int i t⟩, ⟨h3, .str "expr" t3, v3⟩] 3) ∈ n ∧ (v3 = .none ∨ ∃ j r, x.exs[j]? = some r ∧ v3 = .ref (x.ads.getD j 0))
/-- the state between two calls -/
structure GAt (prog : Program) (w : World) (x : Mx) (n : Led) (σ : Gs) : Prop where
  exp : ∀ j r, x.exs[j]? = some r → EAt n x j r
  oid : ∀ j r, x.exs[j]? = some r → ∃ es c, (x.dxs.getD j 0, dictOf es c) ∈ n ∧ OidsAt n es (curOf σ.C j ++ σ.olds j)
  che : DicM prog w n x.cache (fun i => (σ.C[i]?).map fun e => .ref e.d) σ.C.length (fun l => l = σ.C.length)
  mem : ∀ e ∈ σ.C, DicM prog w n e.d e.f (x.txt.length + 1) (fun _ => True)
  old : ∀ j, ∀ ic ∈ σ.olds j, (∃ o, (ic.2, o) ∈ n ∧ isD o) ∧ ∀ e ∈ σ.C, e.d ≠ ic.2
  own : (σ.C.map En.own).Nodup ∧ (σ.C.map En.d).Nodup ∧ ∀ e ∈ σ.C, e.own < x.exs.length
  err : ErrAt n x
  sep : ∀ e ∈ σ.C, e.d ∉ x.dxs ∧ e.d ≠ x.cache ∧ e.d ≠ x.ed
  oln : ∀ j, (σ.olds j).length ≤ 1000
/-- what never changes about the places -/
structure Mx.Ok (x : Mx) : Prop where
  wf : WF x.exs
  sh : ∀ r ∈ x.exs, Shaped r
  len : x.exs.length ≤ 8 ∧ x.dxs.length = x.exs.length ∧ x.txt.length ≤ 100
  nd : x.dxs.Nodup
  c : x.cache ∉ x.dxs ∧ x.ed ∉ x.dxs ∧ x.ed ≠ x.cache
  wl : ∀ y, Row.word y ∈ x.exs → y.length ≤ 1000
def FinLt (x : Mx) (σ : Gs) (n : Led) (k : Nat) : Prop := ∀ e ∈ σ.C, e.own < k → ∀ p v, e.f p = some v → p ≤ x.txt.length ∧ ValOk n (rs x.txt x.exs e.own p) p v
def Ext (n : Led) (k : Nat) (σ σ' : Gs) : Prop := σ'.olds = σ.olds ∧ (∀ (i : Nat) (e : En), σ.C[i]? = some e → ∃ f, σ'.C[i]? = some ⟨e.own, e.d, f⟩ ∧ (k ≤ e.own → f = e.f)) ∧
  ∀ (i : Nat) (e : En), σ.C.length ≤ i → σ'.C[i]? = some e → e.own < k ∧ ∀ p ∈ n, p.1 ≠ e.d
theorem Ext.refl {n : Led} {k : Nat} {σ : Gs} : Ext n k σ σ := ⟨rfl, fun i e h => ⟨e.f, h, fun _ => rfl⟩, fun i e h q => by rw [List.getElem?_eq_none h] at q; cases q⟩
theorem Ext.mono {n : Led} {k k' : Nat} {σ σ' : Gs} (h : Ext n k σ σ') (q : k ≤ k') : Ext n k' σ σ' := ⟨h.1, fun i e he => let ⟨f, a, b⟩ := h.2.1 i e he; ⟨f, a, fun z => b (by omega)⟩, fun i e l he => let ⟨a, b⟩ := h.2.2 i e l he; ⟨by omega, b⟩⟩
theorem Ext.trans {n n' : Led} {k : Nat} {x : Mx} {σ σ' σ'' : Gs} (h : Ext n k σ σ') (h' : Ext n' k σ' σ'') (kp : Keep x σ n n') : Ext n k σ σ'' := by
  refine ⟨h'.1.trans h.1, fun i e he => ?_, fun i e l he => ?_⟩
  · obtain ⟨f, a, b⟩ := h.2.1 i e he
    obtain ⟨f', a', b'⟩ := h'.2.1 i _ a
    exact ⟨f', a', fun z => (b' z).trans (b z)⟩
  · rcases Nat.lt_or_ge i σ'.C.length with z | z
    · have a := List.getElem?_eq_getElem z
      obtain ⟨f', a', _⟩ := h'.2.1 i _ a
      rw [he] at a'
      cases a'
      have := h.2.2 i _ l a
      exact this
    · obtain ⟨a, b⟩ := h'.2.2 i e z he
      exact ⟨a, fun p hp => by obtain ⟨o, ho, _⟩ := kp.1 p hp; exact b (p.1, o) ho⟩
theorem Keep.trans {n n' n'' : Led} {k : Nat} {x : Mx} {σ σ' : Gs} (h : Keep x σ n n') (h' : Keep x σ' n' n'') (e : Ext n k σ σ') : Keep x σ n n'' := by
  refine ⟨fun p hp => ?_, fun p hp q => ?_⟩
  · obtain ⟨o, ho, q⟩ := h.1 p hp; obtain ⟨o2, ho2, q2⟩ := h'.1 (p.1, o) ho; exact ⟨o2, ho2, fun z => q2 (q z)⟩
  · refine h'.2 p (h.2 p hp q) ?_
    rcases q with q | q
    · exact .inl q
    · refine .inr fun z => q ?_
      rcases z with z | z | z | ⟨a, ha, z⟩
      · exact .inl z
      · exact .inr (.inl z)
      · exact .inr (.inr (.inl z))
      · obtain ⟨i, hi⟩ := List.getElem?_of_mem ha
        rcases Nat.lt_or_ge i σ.C.length with l | l
        · obtain ⟨f, b, _⟩ := e.2.1 i _ (List.getElem?_eq_getElem l)
          rw [hi] at b
          cases b
          exact .inr (.inr (.inr ⟨_, List.getElem_mem l, z⟩))
        · exact absurd z.symm ((e.2.2 i a l hi).2 p hp)
theorem FinLt.mono {x : Mx} {σ : Gs} {n : Led} {k k' : Nat} (h : FinLt x σ n k) (q : k' ≤ k) : FinLt x σ n k' := fun e he ho => h e he (by omega)
/-- what a called one with a smaller bound leaves -/
theorem FinLt.up {x : Mx} {σ σ' : Gs} {n n' : Led} {k k' : Nat} (h : FinLt x σ n k) (h' : FinLt x σ' n' k') (e : Ext n k' σ σ') (kp : Keep x σ n n') : FinLt x σ' n' k := by
  intro a ha ho p v hv
  by_cases q : a.own < k'
  · exact h' a ha q p v hv
  · obtain ⟨i, hi⟩ := List.getElem?_of_mem ha
    rcases Nat.lt_or_ge i σ.C.length with l | l
    · obtain ⟨f, b, c⟩ := e.2.1 i _ (List.getElem?_eq_getElem l)
      rw [hi] at b
      cases b
      dsimp only at ho q hv
      rw [c (by omega)] at hv
      have := h _ (List.getElem_mem l) ho p v hv
      exact ⟨this.1, this.2.keep kp⟩
    · exact absurd (e.2.2 i a l hi).1 q
end Vy
end
section
open PyProof.V PyProof.Rows.LCg
namespace Vy
section
variable {prog : Program} {w : World} {A : Around} {env : Env} {g : Heap} {m : Str → Option Value} {news : Led} {R : Result → Shared → Prop}
variable {hs : Heap} {gn : Array GenState} {dr : Drawn} {tk : Nat} {os : OsState}
/-- a loop over a tuple of the ledger -/
theorem r_iterTup {x : Str} {px : Pos} {body orelse : List Stmt} {l : Addr} {vs : List Value} {E : Value → Shared → Prop}
    (hh : A.handled = none) (hx : env.kindOf x = some .local) (hp : (env.scope.kind == .class || (env.scope.kind == .module && env.locals != env.globals)) = false)
    (F : Fr g env.locals hs m) (N : News g env.locals hs news) (hm : (l, tupO vs) ∈ news)
    (J : Addr → Nat → (Str → Option Value) → Led → Prop) (Jm : ∀ I i m n n', (∀ p ∈ news, p.1 ≠ I) → Off [I] n n' → J I i m n → J I i m n') (h0 : ∀ I, (∀ p ∈ news, p.1 ≠ I) → J I 0 m news)
    (turn : ∀ I i v m₁ news₁ h₁ tk₁ it, (∀ p ∈ news, p.1 ≠ I) → vs[i]? = some v → J I i m₁ news₁ → (I, it) ∈ news₁ → it.cls = .type "tuple_iterator" → (l, tupO vs) ∈ news₁ →
      Fr g env.locals h₁ (fun y => if y = x then some v else m₁ y) → News g env.locals h₁ news₁ →
      wpAny (model prog w) A (execs body env) (fun f s₃ => match f with
        | .next | .cont => ∃ h₂ tk₂ m₂ news₂, s₃ = ⟨h₂, gn, dr, tk₂, os⟩ ∧ Fr g env.locals h₂ m₂ ∧ News g env.locals h₂ news₂ ∧ (I, it) ∈ news₂ ∧ (l, tupO vs) ∈ news₂ ∧ J I (i + 1) m₂ news₂
        | .brk => R (.ok .next) s₃
        | .ret v => R (.ok (.ret v)) s₃) NoE ⟨h₁, gn, dr, tk₁, os⟩)
    (done : ∀ I m₁ news₁ h₁ tk₁, (∀ p ∈ news, p.1 ≠ I) → J I vs.length m₁ news₁ → Fr g env.locals h₁ m₁ → News g env.locals h₁ news₁ → wpAny (model prog w) A (execs orelse env) (fun f s₃ => R (.ok f) s₃) NoE ⟨h₁, gn, dr, tk₁, os⟩) :
    wpAny (model prog w) A (pyIter (.ref l)) (fun it s₂ => codeAny (model prog w) A (.forLoop (.Name x px) it body orelse env) R s₂) E ⟨hs, gn, dr, tk, os⟩ := by
  have D := N _ hm
  refine wpAny_pyIter_tuple (isTup_of N hm) ?_
  have hlt : ∀ p ∈ news, p.1 ≠ hs.objs.size := fun p hp => Nat.ne_of_lt (Heap.lt_size (N p hp).1)
  have hIg : g.get? hs.objs.size = none := by
    cases q : g.get? hs.objs.size with
    | none => rfl
    | some o => exact absurd (Heap.lt_size (F.keep _ _ q)) (Nat.lt_irrefl _)
  have hIL : env.locals ≠ hs.objs.size := by
    obtain ⟨oL, _, _, hL, _⟩ := F.ns
    exact Nat.ne_of_lt (Heap.lt_size hL)
  let it0 : Obj := { cls := .type "tuple_iterator", data := .fields #[.ref l, .int 0 0] }
  have N2 : News g env.locals (hs.push it0) ((hs.objs.size, it0) :: news) := N.push F it0
  have hord : ord (tupO vs) := ord_tup _
  refine r_loop (W := Walks.tuple hh hs.objs.size l (hlt _ hm) (List.toArray vs)) hx hp (by simp [hIL]; exact fun e => D.2.1 e.symm) (by simpa using hIg)
    (fun b hb i h st => ?_) ⟨⟨_, Heap.get?_push_size _ rfl, rfl, rfl⟩, (isTup_of N hm).push _⟩ (F.push _) N2 (fun i m n => J hs.objs.size i m n ∧ (l, tupO vs) ∈ n)
    (fun i m n n' hO hJ => ⟨Jm _ _ _ _ _ hlt hO hJ.1, hO _ hJ.2 (.inl hord)⟩)
    ⟨Jm _ _ _ _ _ hlt (fun p hp _ => .tail _ hp) (h0 _ hlt), .tail _ hm⟩ ?_ ?_
  · obtain ⟨o, ho, hc, _⟩ := st.1
    simp only [List.mem_singleton] at hb
    subst hb
    exact ⟨o, ho, fun q => by first | exact q.1 hc | exact q.2.1 hc | exact q.2.2 hc⟩
  · intro i v m₁ news₁ h₁ tk₁ own hi hP hJ hsub hown hall hst F₁ N₁
    obtain ⟨oI, hoI, hcI, _⟩ := hst.1
    have mI := hall hs.objs.size (by simp) hIg oI hoI
    have hv : (List.toArray vs)[i]? = some v := hP
    refine wpAny_mono (turn hs.objs.size i v m₁ news₁ h₁ tk₁ oI hlt (by simpa using hv) hJ.1 (hown _ mI) hcI hJ.2 F₁ N₁) (fun f s₃ h₃ => ?_) fun _ _ e => e
    have fin : (∃ h₂ tk₂ m₂ news₂, s₃ = ⟨h₂, gn, dr, tk₂, os⟩ ∧ Fr g env.locals h₂ m₂ ∧ News g env.locals h₂ news₂ ∧ (hs.objs.size, oI) ∈ news₂ ∧ (l, tupO vs) ∈ news₂ ∧ J hs.objs.size (i + 1) m₂ news₂) →
        ∃ h₂ tk₂ m₂ news₂, s₃ = ⟨h₂, gn, dr, tk₂, os⟩ ∧ Fr g env.locals h₂ m₂ ∧ News g env.locals h₂ news₂ ∧ (∀ p ∈ own, p ∈ news₂) ∧ J hs.objs.size (i + 1) m₂ news₂ ∧ (l, tupO vs) ∈ news₂ := by
      rintro ⟨h₂, tk₂, m₂, news₂, e, F₂, N₂, mI₂, ml₂, hJ₂⟩
      refine ⟨h₂, tk₂, m₂, news₂, e, F₂, N₂, fun p hp => ?_, hJ₂, ml₂⟩
      have e1 := (N₁ _ (hown p hp)).1
      rcases List.mem_cons.mp (hsub p hp) with q | q
      · rw [q, hoI] at e1
        have : p = (hs.objs.size, oI) := Prod.ext q (Option.some.inj e1).symm
        exact this ▸ mI₂
      · have q : p.1 = l := by simpa using q
        rw [q, (N₁ _ hJ.2).1] at e1
        have : p = (l, tupO vs) := Prod.ext q (Option.some.inj e1).symm
        exact this ▸ ml₂
    cases f with
    | next => exact fin h₃
    | cont => exact fin h₃
    | brk => exact h₃
    | ret v => exact h₃
  · intro m₁ news₁ h₁ tk₁ hJ F₁ N₁
    rw [List.size_toArray] at hJ
    exact done _ m₁ news₁ h₁ tk₁ hlt hJ.1 F₁ N₁
end
/-- what match_core of expression k does -/
def MSpec (prog : Program) (w : World) (x : Mx) (k : Nat) : Prop :=
  ∀ {A : Around} {env : Env} {g : Heap} {L : Addr} {m : Str → Option Value} {news : Led} {s : Shared} {R : Result → Shared → Prop} {σ : Gs} {p : Nat} {tp tx : Tok},
    Gd w A env g L → Fr g L s.heap m → News g L s.heap news → A.depth + 3 * k + 5 < recursionLimit → A.handled = none → GAt prog w x news σ → FinLt x σ news (k + 1) → p ≤ x.txt.length →
    (∀ v h' tk n' σ', Fr g L h' m → News g L h' n' → GAt prog w x n' σ' → FinLt x σ' n' (k + 1) → Ext news (k + 1) σ σ' → Keep x σ news n' → ValOk n' (rs x.txt x.exs k p) p v → R (.ok (.ret v)) { s with heap := h', toks := tk }) →
    codeAny (model prog w) A (.call (.ref 266) ⟨[.ref (x.ads.getD k 0), .str (S x.txt) tx, .int (nI p) tp, .ref x.cache, .ref x.err], []⟩) R s
def Row.unc : Row → Addr
  | .word _ => 325
  | .all _ => 384
  | .any _ => 410
  | .neg _ => 447
  | .look _ => 447
/-- what _uncached_match of expression k does -/
def USpec (prog : Program) (w : World) (x : Mx) (k : Nat) (r : Row) : Prop :=
  ∀ {A : Around} {env : Env} {g : Heap} {L : Addr} {m : Str → Option Value} {news : Led} {s : Shared} {R : Result → Shared → Prop} {σ : Gs} {p : Nat} {tp tx : Tok},
    Gd w A env g L → Fr g L s.heap m → News g L s.heap news → A.depth + 3 * k + 4 < recursionLimit → A.handled = none → GAt prog w x news σ → FinLt x σ news k → p ≤ x.txt.length →
    (∀ v h' tk n' σ', Fr g L h' m → News g L h' n' → GAt prog w x n' σ' → FinLt x σ' n' k → Ext news k σ σ' → Keep x σ news n' → ValOk n' (rowSem x.txt (rs x.txt x.exs) r p) p v → R (.ok (.ret v)) { s with heap := h', toks := tk }) →
    codeAny (model prog w) A (.call (.ref r.unc) ⟨[.ref (x.ads.getD k 0), .str (S x.txt) tx, .int (nI p) tp, .ref x.cache, .ref x.err], []⟩) R s
section
variable {prog : Program} {w : World} {x : Mx}
theorem ord_d {o : Obj} (h : isD o) : ord o := by unfold isD at h; exact ⟨by rw [h]; decide, by rw [h]; decide, by rw [h]; decide⟩
theorem ord_r {o : Obj} {a : Addr} (h : o.cls = .ref a) : ord o := by
  unfold ord; rw [h]; exact ⟨by simp, by simp, by simp⟩
def gd (o : Obj) : Prop := isD o ∨ (∃ a, o.cls = .ref a) ∨ ∃ vs, o = tupO vs
theorem gd_d {o : Obj} (h : isD o) : gd o := .inl h
theorem gd_r {o : Obj} {a : Addr} (h : o.cls = .ref a) : gd o := .inr (.inl ⟨a, h⟩)
theorem gd_t {vs : List Value} : gd (tupO vs) := .inr (.inr ⟨vs, rfl⟩)
theorem gd_ord {o : Obj} (h : gd o) : ord o := by
  rcases h with h | ⟨a, h⟩ | ⟨vs, rfl⟩
  · exact ord_d h
  · exact ord_r h
  · exact ord_tup _
theorem gd_nl {its : Array Value} {n : Nat} : ¬ gd (listOf its n) := by
  rintro (h | ⟨a, h⟩ | ⟨vs, h⟩)
  · have h : Value.type "list" = Value.type "dict" := h
    injection h with h; exact absurd h (by decide)
  · have h : Value.type "list" = Value.ref a := h
    cases h
  · have h : Value.type "list" = Value.type "tuple" := congrArg Obj.cls h
    injection h with h; exact absurd h (by decide)
theorem isD_of {o : Obj} {kvs : List (Int × Value)} (h : o.IsDictOf (PySem.intKind prog w) kvs) : isD o := by obtain ⟨_, _, ⟨x, _⟩, _⟩ := h; exact x
theorem DicM.off {n n' : Led} {d : Addr} {f : Nat → Option Value} {b : Nat} {P : Nat → Prop} (h : DicM prog w n d f b P) (k : ∀ p ∈ n, gd p.2 → p ∈ n') : DicM prog w n' d f b P := by
  obtain ⟨o, kvs, m1, hd, r⟩ := h; exact ⟨o, kvs, k _ m1 (gd_d (isD_of hd)), hd, r⟩
theorem EAt.off {n n' : Led} {k : Nat} {r : Row} (h : EAt n x k r) (kp : ∀ p ∈ n, gd p.2 → p ∈ n') : EAt n' x k r := by
  obtain ⟨o, m1, h⟩ := h
  have kt : ∀ a vs, (a, tupO vs) ∈ n → (a, tupO vs) ∈ n' := fun a vs h => kp _ h (gd_t)
  cases r with
  | word y => obtain ⟨t1, t2, it, rfl⟩ := h; exact ⟨_, kp _ m1 (gd_r rfl), t1, t2, it, rfl⟩
  | all ks => obtain ⟨t2, it, mt, rfl, hm⟩ := h; exact ⟨_, kp _ m1 (gd_r rfl), t2, it, mt, rfl, kt _ _ hm⟩
  | any ks => obtain ⟨t2, it, mt, rfl, hm⟩ := h; exact ⟨_, kp _ m1 (gd_r rfl), t2, it, mt, rfl, kt _ _ hm⟩
  | neg i => obtain ⟨t2, it, mt, rfl, hm⟩ := h; exact ⟨_, kp _ m1 (gd_r rfl), t2, it, mt, rfl, kt _ _ hm⟩
  | look i => obtain ⟨t2, it, mt, rfl, hm⟩ := h; exact ⟨_, kp _ m1 (gd_r rfl), t2, it, mt, rfl, kt _ _ hm⟩
theorem OidsAt.off {n n' : Led} {es : List DictEntry} {l : List (Nat × Addr)} (h : OidsAt n es l) (kp : ∀ p ∈ n, gd p.2 → p ∈ n') : OidsAt n' es l := by
  rcases h with h | ⟨h, t, tp, ps, e, hm, ha, hl⟩
  · exact .inl h
  · exact .inr ⟨h, t, tp, ps, e, kp _ hm (gd_t), ha.mono fun a b ⟨t, q⟩ => ⟨t, kp _ q (gd_t)⟩, hl⟩
theorem GAt.off {n n' : Led} {σ : Gs} (h : GAt prog w x n σ) (kp : ∀ p ∈ n, gd p.2 → p ∈ n') : GAt prog w x n' σ where
  exp := fun j r e => (h.exp j r e).off kp
  oid := fun j r e => by obtain ⟨es, c, m1, o⟩ := h.oid j r e; exact ⟨es, c, kp _ m1 (gd_d rfl), o.off kp⟩
  che := h.che.off kp
  mem := fun e he => (h.mem e he).off kp
  old := fun j ic hi => by obtain ⟨⟨o, m1, q⟩, r⟩ := h.old j ic hi; exact ⟨⟨o, kp _ m1 (gd_d q), q⟩, r⟩
  own := h.own
  err := by
    obtain ⟨⟨oE, m1, hc, r1⟩, h1, h2, h3, t1, t2, t3, v1, i, t, v3, m2, r2⟩ := h.err
    exact ⟨⟨oE, kp _ m1 (gd_r hc), hc, r1⟩, h1, h2, h3, t1, t2, t3, v1, i, t, v3, kp _ m2 (gd_d rfl), r2⟩
  sep := h.sep
  oln := h.oln
theorem ValOk.off {n n' : Led} {o : Option Nat} {p : Nat} {v : Value} (h : ValOk n o p v) (k : ∀ p ∈ n, gd p.2 → p ∈ n') : ValOk n' o p v := by
  cases o with
  | none => exact h
  | some q =>
    obtain ⟨a, dx, ch, fe, ft, t1, t2, e, h1, od, h2, h3⟩ := h
    exact ⟨a, dx, ch, fe, ft, t1, t2, e, k _ h1 (gd_r rfl), od, k _ h2 (gd_d h3), h3⟩
theorem GAt.sup {n n' : Led} {σ : Gs} (h : GAt prog w x n σ) (sub : ∀ p ∈ n, p ∈ n') : GAt prog w x n' σ := h.off fun p hp _ => sub p hp
theorem FinLt.off {n n' : Led} {σ : Gs} {k : Nat} (h : FinLt x σ n k) (kp : ∀ p ∈ n, gd p.2 → p ∈ n') : FinLt x σ n' k := fun e he ho p v hv => ⟨(h e he ho p v hv).1, (h e he ho p v hv).2.off kp⟩
theorem FinLt.sup {n n' : Led} {σ : Gs} {k : Nat} (h : FinLt x σ n k) (sub : ∀ p ∈ n, p ∈ n') : FinLt x σ n' k := fun e he ho p v hv => ⟨(h e he ho p v hv).1, (h e he ho p v hv).2.keep (x := x) (σ := σ) (Keep.sup sub)⟩
theorem starts3 {t y : List Nat} {p : Nat} (hp : p ≤ t.length) : Txt.startswith3 (S t) (S y) (nI p) = decide ((t.drop p).take y.length = y) := by
  have e : fromIndex (S t).length (nI p) = p := by unfold fromIndex; rw [if_neg (by simp only [nI]; omega)]; simp only [nI]; omega
  unfold Txt.startswith3
  rw [e, StrLaws.subAt_eq, S_len, S_len, S_list, S_list, Bool.eq_iff_iff, Bool.and_eq_true, decide_eq_true_eq, decide_eq_true_eq, beq_iff_eq]
  refine ⟨fun h => h.2, fun h => ⟨?_, h⟩⟩
  have := congrArg List.length h
  rw [List.length_take, List.length_drop] at this
  omega
theorem unc_word (ok : x.Ok) {k : Nat} {y : List Nat} (hk : x.exs[k]? = some (.word y)) : USpec prog w x k (.word y) := by
  intro A env g L m news s R σ p tp tx G F N hdep hhan hG hF hp hret
  obtain ⟨h', gn, dr, tk0, os0⟩ := s
  show codeAny _ _ (.call (.ref 325) _) _ _
  refine enterN G F N (by k_is) (by k_is) (by omega) (binds := [("self", .ref (x.ads.getD k 0)), ("text", .str (S x.txt) tx), ("pos", .int (nI p) tp), ("cache", .ref x.cache), ("error", .ref x.err)]) (BindsTo.of_eq rfl) (locs rfl) (fun g' L' h' G' keep F N lt => ?_) (by decide) rfl rfl rfl
  have ⟨X, ⟨p', loose, mean, mg, mb, T⟩, _, _, _⟩ := G'
  have hE := hG.exp k _ hk
  obtain ⟨es, c, md, ho⟩ := hG.oid k _ hk
  obtain ⟨o, m1, t1, t2, it, rfl⟩ := id hE
  repeat kp_kind "s"
  first | with_reducible refine isTrue_plain ?_ | refine isTrue_plain ?_
  repeat kp_kind "s"
  first | with_reducible refine GM.startswith ?_ | refine GM.startswith ?_
  first | with_reducible refine callWith_method1 ?_ | refine callWith_method1 ?_
  repeat kp_kind "s"
  refine get_slot F X (inst_of N m1 md) (by k_is) (by k_is) (by k_is) (by k_is) (by k_is) (by k_is) rfl rfl ?_
  repeat kp_kind "s"
  refine SC.startswith3 ?_
  repeat kp_kind "s"
  have hyl := ok.wl y (List.mem_of_getElem? hk)
  have hs3 : Txt.startswith3 (S x.txt) (S y) (nI p) = decide ((x.txt.drop p).take y.length = y) := starts3 hp
  by_cases hc : (x.txt.drop p).take y.length = y
  · first | with_reducible refine itT (by rw [hs3]; exact decide_eq_true hc) ?_ | refine itT (by rw [hs3]; exact decide_eq_true hc) ?_
    repeat kp_kind "s"
    refine get_slot F X (inst_of N m1 md) (by k_is) (by k_is) (by k_is) (by k_is) (by k_is) (by k_is) rfl rfl ?_
    repeat kp_kind "s"
    first | with_reducible refine r_lenS (by rw [S_len]; omega) (fun t5 tkk => ?_) | refine r_lenS (by rw [S_len]; omega) (fun t5 tkk => ?_)
    first | with_reducible refine r_add (c := nI (p + y.length)) (by rw [S_len]; simp [nI]) ?_ | refine r_add (c := nI (p + y.length)) (by rw [S_len]; simp [nI]) ?_
    repeat kp_kind "s"
    refine node_make (p0 := p) (q := p + y.length) (ch := .none) (.inl ⟨rfl, rfl, rfl⟩) (.inl rfl) G' F N (by rw [depth_deeper]; omega) (fun v h' tkk n' F N sub hnd => ?_)
    kp_kind "k"
    refine hret v _ _ n' σ F N (hG.sup sub) (hF.sup sub) Ext.refl (Keep.sup sub) ?_
    show ValOk n' (wordAt x.txt y p) p v
    unfold wordAt; rw [if_pos hc]; exact hnd
  · refine itF (by rw [hs3]; simpa using hc) ?_
    repeat kp_kind "s"
    kp_kind "k"
    refine hret .none _ _ news σ F N hG hF Ext.refl Keep.refl ?_
    show ValOk news (wordAt x.txt y p) p .none
    unfold wordAt; rw [if_neg hc]; exact rfl
end
end Vy
end
section
open PyProof.V PyProof.Rows.LCg
namespace Vy
theorem getL_oids {n : Led} {es : List DictEntry} {l : List (Nat × Addr)} {name : Str} (h : OidsAt n es l) (hn : (Str.ofString "oids" == name) = false) : getL name es = some none := by
  rcases h with ⟨rfl, _⟩ | ⟨h, t, tp, ps, rfl, _⟩
  · rfl
  · unfold getL
    have e : (Value.isStr (.str "oids" t) name) = false := hn
    simp only [List.find?_cons, List.find?_nil, e]
    rfl
section
variable {prog : Program} {w : World} {A : Around} {E : Value → Shared → Prop} {s : Shared} {env : Env} {g : Heap} {L : Addr} {m : Str → Option Value} {news : List (Addr × Obj)} {R : Result → Shared → Prop}
theorem r_itemTD {value slice : Expr} {a : Addr} {vs : List Value} {k : Nat} {u : Tok} {x : Value} {Q : Value → Shared → Prop} (N : News g L s.heap news) (hm : (a, tupO vs) ∈ news)
    (hk : k < 1000000) (hx : vs[k]? = some x) (h : Q x s)
    (hs : subscripted slice false (.ref a) (.int (k : Nat) u) = operate [.ref a, .int (k : Nat) u] (getItem (.ref a) (.int (k : Nat) u)) := by with_unfolding_all rfl) :
    wpAny (model prog w) A (subscriptTail value slice (.ref a) (.int (k : Nat) u)) Q E s := by
  have hl : k < vs.length := by
    rcases Nat.lt_or_ge k vs.length with h | h
    · exact h
    · rw [List.getElem?_eq_none h] at hx; cases hx
  refine tail_any (News.isTup N hm).typeIs PySem.F.slot_tuple_getitem.lookup (getItem_tuple (j := k) (News.isTup N hm) (by omega) (by omega) ?_ (by simpa using hx) h) hs
  rw [StrLaws.seqIndex_nonneg (by omega) (by rw [List.size_toArray]; omega), Int.toNat_natCast]
theorem ex_core {ads : List Addr} {es : List DictEntry} {n k : Nat} {r : Row} {pl : Sem Bool} {Q : Value × List Value → Shared → Prop} (F : Fr g L s.heap m) (X : (hd.heap_39 w.params).In g) (N : News g L s.heap news) (h : ExAt news ads es n k r)
    (he : getL "match_core" es = some none) (q : Q (.ref 266, [.ref (ads.getD k 0)]) s) : wpAny (model prog w) A (getMethod (.ref (ads.getD k 0)) "match_core" pl) Q E s := by
  obtain ⟨dx, o, m1, m2, h⟩ := h
  cases r with
  | word x =>
    obtain ⟨t1, t2, it, rfl⟩ := h
    exact method_inst F X (inst_of N m1 m2) (by k_is) (by k_is) (by k_is) he q
  | all ks =>
    obtain ⟨t2, it, mt, rfl, _⟩ := h
    exact method_inst F X (inst_of N m1 m2) (by k_is) (by k_is) (by k_is) he q
  | any ks =>
    obtain ⟨t2, it, mt, rfl, _⟩ := h
    exact method_inst F X (inst_of N m1 m2) (by k_is) (by k_is) (by k_is) he q
  | neg i =>
    obtain ⟨t2, it, mt, rfl, _⟩ := h
    exact method_inst F X (inst_of N m1 m2) (by k_is) (by k_is) (by k_is) he q
  | look i =>
    obtain ⟨t2, it, mt, rfl, _⟩ := h
    exact method_inst F X (inst_of N m1 m2) (by k_is) (by k_is) (by k_is) he q
end
section
variable {prog : Program} {w : World} {x : Mx}
theorem unc_neg (ok : x.Ok) {k i : Nat} (hk : x.exs[k]? = some (.neg i)) (IH : MSpec prog w x i) : USpec prog w x k (.neg i) := by
  intro A env g L m news s R σ p tp tx G F N hdep hhan hG hF hp hret
  obtain ⟨h', gn, dr, tk0, os0⟩ := s
  have hik : i < k := ok.wf k _ hk i (by simp [Row.kids])
  have hkl : k < x.exs.length := by
    rcases Nat.lt_or_ge k x.exs.length with h | h
    · exact h
    · rw [List.getElem?_eq_none h] at hk; cases hk
  show codeAny _ _ (.call (.ref 447) _) _ _
  refine enterN G F N (by k_is) (by k_is) (by omega) (binds := [("self", .ref (x.ads.getD k 0)), ("text", .str (S x.txt) tx), ("pos", .int (nI p) tp), ("cache", .ref x.cache), ("error", .ref x.err)]) (BindsTo.of_eq rfl) (locs rfl) (fun g' L' h' G' keep F N lt => ?_) (by decide) rfl rfl rfl
  have ⟨X, ⟨p', loose, mean, mg, mb, T⟩, _, _, _⟩ := G'
  have hE := hG.exp k _ hk
  obtain ⟨es, c, md, ho⟩ := hG.oid k _ hk
  obtain ⟨o, m1, t2, it, mt, rfl, hmt⟩ := id hE
  have hki : x.exs[i]? = some x.exs[i] := List.getElem?_eq_getElem (by omega)
  obtain ⟨es2, c2, md2, ho2⟩ := hG.oid i _ hki
  repeat kp_kind "s"
  refine get_slot F X (inst_of N m1 md) (by k_is) (by k_is) (by k_is) (by k_is) (by k_is) (by k_is) rfl rfl ?_
  repeat kp_kind "s"
  refine r_itemTD (k := 0) N hmt (by decide) rfl ?_
  refine ex_core F X N ((hG.exp i _ hki).ex md2) (getL_oids ho2 (by decide +kernel)) ?_
  repeat kp_kind "s"
  refine IH G' F N (by rw [depth_deeper]; omega) hhan hG (hF.mono (by omega)) hp (fun v h' tkk n' σ' F N hG' hF' hext hkp hv => ?_)
  repeat kp_kind "s"
  refine is_none_gen ?_
  repeat kp_kind "s"
  obtain ⟨o2, m12, t22, it2, mt2, rfl, hmt2⟩ := hG'.exp k _ hk
  obtain ⟨es3, c3, md3, ho3⟩ := hG'.oid k _ hk
  refine get_slot F X (inst_of N m12 md3) (by k_is) (by k_is) (by k_is) (by k_is) (by k_is) (by k_is) rfl rfl ?_
  repeat kp_kind "s"
  first | with_reducible refine eq_bool ?_ | refine eq_bool ?_
  repeat kp_kind "s"
  have hFk := hF.up hF' hext hkp
  have hexk := hext.mono (show i + 1 ≤ k by omega)
  cases hs : rs x.txt x.exs i p with
  | none =>
    rw [hs] at hv
    have hv : v = .none := hv
    subst hv
    first | with_reducible refine itT (by decide) ?_ | refine itT (by decide) ?_
    repeat kp_kind "s"
    refine node_make (p0 := p) (q := p) (ch := .none) (.inl ⟨rfl, rfl, rfl⟩) (.inl rfl) G' F N (by rw [depth_deeper]; omega) (fun v h' tkk n2 F N sub hnd => ?_)
    kp_kind "k"
    refine hret v _ _ n2 σ' F N (hG'.sup sub) (hFk.sup sub) hexk (hkp.trans (Keep.sup (σ := σ') sub) hexk) ?_
    have e : rowSem x.txt (rs x.txt x.exs) (.neg i) p = some p := by show (if _ then _ else _) = _; rw [hs]; rfl
    rw [e]; exact hnd
  | some q =>
    rw [hs] at hv
    obtain ⟨a, dx, ch, fe, ft, t1, t4, rfl, _⟩ := (show NodeAt n' v p q from hv)
    refine itF (by simp) ?_
    repeat kp_kind "s"
    kp_kind "k"
    refine hret .none _ _ n' σ' F N hG' hFk hexk hkp ?_
    have e : rowSem x.txt (rs x.txt x.exs) (.neg i) p = none := by show (if _ then _ else _) = _; rw [hs]; rfl
    rw [e]; exact rfl
theorem unc_look (ok : x.Ok) {k i : Nat} (hk : x.exs[k]? = some (.look i)) (IH : MSpec prog w x i) : USpec prog w x k (.look i) := by
  intro A env g L m news s R σ p tp tx G F N hdep hhan hG hF hp hret
  obtain ⟨h', gn, dr, tk0, os0⟩ := s
  have hik : i < k := ok.wf k _ hk i (by simp [Row.kids])
  have hkl : k < x.exs.length := by
    rcases Nat.lt_or_ge k x.exs.length with h | h
    · exact h
    · rw [List.getElem?_eq_none h] at hk; cases hk
  show codeAny _ _ (.call (.ref 447) _) _ _
  refine enterN G F N (by k_is) (by k_is) (by omega) (binds := [("self", .ref (x.ads.getD k 0)), ("text", .str (S x.txt) tx), ("pos", .int (nI p) tp), ("cache", .ref x.cache), ("error", .ref x.err)]) (BindsTo.of_eq rfl) (locs rfl) (fun g' L' h' G' keep F N lt => ?_) (by decide) rfl rfl rfl
  have ⟨X, ⟨p', loose, mean, mg, mb, T⟩, _, _, _⟩ := G'
  have hE := hG.exp k _ hk
  obtain ⟨es, c, md, ho⟩ := hG.oid k _ hk
  obtain ⟨o, m1, t2, it, mt, rfl, hmt⟩ := id hE
  have hki : x.exs[i]? = some x.exs[i] := List.getElem?_eq_getElem (by omega)
  obtain ⟨es2, c2, md2, ho2⟩ := hG.oid i _ hki
  repeat kp_kind "s"
  refine get_slot F X (inst_of N m1 md) (by k_is) (by k_is) (by k_is) (by k_is) (by k_is) (by k_is) rfl rfl ?_
  repeat kp_kind "s"
  refine r_itemTD (k := 0) N hmt (by decide) rfl ?_
  refine ex_core F X N ((hG.exp i _ hki).ex md2) (getL_oids ho2 (by decide +kernel)) ?_
  repeat kp_kind "s"
  refine IH G' F N (by rw [depth_deeper]; omega) hhan hG (hF.mono (by omega)) hp (fun v h' tkk n' σ' F N hG' hF' hext hkp hv => ?_)
  repeat kp_kind "s"
  refine is_none_gen ?_
  repeat kp_kind "s"
  obtain ⟨o2, m12, t22, it2, mt2, rfl, hmt2⟩ := hG'.exp k _ hk
  obtain ⟨es3, c3, md3, ho3⟩ := hG'.oid k _ hk
  refine get_slot F X (inst_of N m12 md3) (by k_is) (by k_is) (by k_is) (by k_is) (by k_is) (by k_is) rfl rfl ?_
  repeat kp_kind "s"
  first | with_reducible refine eq_bool ?_ | refine eq_bool ?_
  repeat kp_kind "s"
  have hFk := hF.up hF' hext hkp
  have hexk := hext.mono (show i + 1 ≤ k by omega)
  cases hs : rs x.txt x.exs i p with
  | some q =>
    rw [hs] at hv
    obtain ⟨a, dx, ch, fe, ft, t1, t4, rfl, _⟩ := (show NodeAt n' v p q from hv)
    first | with_reducible refine itT (by simp) ?_ | refine itT (by simp) ?_
    repeat kp_kind "s"
    refine node_make (p0 := p) (q := p) (ch := .none) (.inl ⟨rfl, rfl, rfl⟩) (.inl rfl) G' F N (by rw [depth_deeper]; omega) (fun v h' tkk n2 F N sub hnd => ?_)
    kp_kind "k"
    refine hret v _ _ n2 σ' F N (hG'.sup sub) (hFk.sup sub) hexk (hkp.trans (Keep.sup (σ := σ') sub) hexk) ?_
    have e : rowSem x.txt (rs x.txt x.exs) (.look i) p = some p := by show (if _ then _ else _) = _; rw [hs]; rfl
    rw [e]; exact hnd
  | none =>
    rw [hs] at hv
    have hv : v = .none := hv
    subst hv
    refine itF (by decide) ?_
    repeat kp_kind "s"
    kp_kind "k"
    refine hret .none _ _ n' σ' F N hG' hFk hexk hkp ?_
    have e : rowSem x.txt (rs x.txt x.exs) (.look i) p = none := by show (if _ then _ else _) = _; rw [hs]; rfl
    rw [e]; exact rfl
end
end Vy
end
section
open PyProof.V PyProof.Rows.LCg
namespace Vy
theorem Keep.off {x : Mx} {σ : Gs} {n m m' : Led} {I : Addr} (h : Keep x σ n m) (hI : ∀ p ∈ n, p.1 ≠ I) (hO : Off [I] m m') : Keep x σ n m' :=
  ⟨fun p hp => by obtain ⟨o, ho, q⟩ := h.1 p hp; exact ⟨o, hO _ ho (.inr (by simpa using hI p hp)), q⟩, fun p hp q => hO p (h.2 p hp q) (.inr (by simpa using hI p hp))⟩
section
variable {prog : Program} {w : World} {A : Around} {E : Value → Shared → Prop} {s : Shared} {env : Env} {g : Heap} {L : Addr} {m : Str → Option Value} {news : List (Addr × Obj)} {R : Result → Shared → Prop}
theorem call_KWn {M : Model} {func : Expr} {args : List Expr} {kws : List Keyword} {pos : Pos} {Q : Value → Shared → Prop}
    (h : wpAny M A (eval func env) (fun f s₁ => wpAny M A (callWith pos f [] (backTo pos (starEach args env)) (backToKw pos (keywordEach kws env))) Q E s₁) E s)
    (he : eval (.Call func args kws pos) env = (do callWith pos (← eval func env) [] (backTo pos (starEach args env)) (backToKw pos (keywordEach kws env))) := by rfl) :
    wpAny M A (eval (.Call func args kws pos) env) Q E s := by
  rw [he]; exact wpAny_bind h
theorem node_end {v : Value} {p q : Nat} {expr : Bool} {Q : Value → Shared → Prop} (F : Fr g L s.heap m) (X : (hd.heap_39 w.params).In g) (N : News g L s.heap news) (h : NodeAt news v p q) (k : ∀ t tk, Q (.int (nI q) t) { s with toks := tk }) :
    wpAny (model prog w) A (getAttr v "end" expr) Q E s := by
  obtain ⟨a, dx, ch, fe, ft, t1, t2, rfl, h1, od, h2, h3⟩ := h
  exact get_slot F X (inst_of N h1 h2) (by k_is) (by k_is) (by k_is) (by k_is) (by k_is) (by k_is) rfl rfl (k _ _)
theorem node_start {v : Value} {p q : Nat} {expr : Bool} {Q : Value → Shared → Prop} (F : Fr g L s.heap m) (X : (hd.heap_39 w.params).In g) (N : News g L s.heap news) (h : NodeAt news v p q) (k : ∀ t tk, Q (.int (nI p) t) { s with toks := tk }) :
    wpAny (model prog w) A (getAttr v "start" expr) Q E s := by
  obtain ⟨a, dx, ch, fe, ft, t1, t2, rfl, h1, od, h2, h3⟩ := h
  exact get_slot F X (inst_of N h1 h2) (by k_is) (by k_is) (by k_is) (by k_is) (by k_is) (by k_is) rfl rfl (k _ _)
end
section
variable {prog : Program} {w : World} {x : Mx}
theorem unc_any (ok : x.Ok) {k : Nat} {ks : List Nat} (hk : x.exs[k]? = some (.any ks)) (IH : ∀ i ∈ ks, MSpec prog w x i) : USpec prog w x k (.any ks) := by
  intro A env g L m news s R σ p tp tx G F N hdep hhan hG hF hp hret
  obtain ⟨h', gn, dr, tk0, os0⟩ := s
  have hkl : k < x.exs.length := by
    rcases Nat.lt_or_ge k x.exs.length with h | h
    · exact h
    · rw [List.getElem?_eq_none h] at hk; cases hk
  show codeAny _ _ (.call (.ref 410) _) _ _
  refine enterN G F N (by k_is) (by k_is) (by omega) (binds := [("self", .ref (x.ads.getD k 0)), ("text", .str (S x.txt) tx), ("pos", .int (nI p) tp), ("cache", .ref x.cache), ("error", .ref x.err)]) (BindsTo.of_eq rfl) (locs rfl) (fun g' L' h' G' keep F N lt => ?_) (by decide) rfl rfl rfl
  have ⟨X, ⟨p', loose, mean, mg, mb, T⟩, _, _, _⟩ := G'
  have hE := hG.exp k _ hk
  obtain ⟨es, c, md, ho⟩ := hG.oid k _ hk
  obtain ⟨o, m1, t2, it, mt, rfl, hmt⟩ := id hE
  repeat kp_kind "s"
  refine get_slot F X (inst_of N m1 md) (by k_is) (by k_is) (by k_is) (by k_is) (by k_is) (by k_is) rfl rfl ?_
  refine r_iterTup (J := fun I i m n => m "self" = some (.ref (x.ads.getD k 0)) ∧ m "text" = some (.str (S x.txt) tx) ∧ m "pos" = some (.int (nI p) tp) ∧ m "cache" = some (.ref x.cache) ∧ m "error" = some (.ref x.err) ∧
    ∃ σi, GAt prog w x n σi ∧ FinLt x σi n k ∧ Ext news k σ σi ∧ Keep x σ news n ∧ anySem (rs x.txt x.exs) (ks.drop i) p = anySem (rs x.txt x.exs) ks p) hhan (by rfl) (by rfl) F N hmt ?_ ?_ ?_ ?_
  · rintro I i m n n' hI hO ⟨j1, j2, j3, j4, j5, σi, j6, j7, j8, j9, j10⟩
    exact ⟨j1, j2, j3, j4, j5, σi, j6.off fun p hp ho => hO p hp (.inl (gd_ord ho)), j7.off fun p hp ho => hO p hp (.inl (gd_ord ho)), j8, j9.off hI hO, j10⟩
  · intro I hI
    exact ⟨by kp_kind "lk", by kp_kind "lk", by kp_kind "lk", by kp_kind "lk", by kp_kind "lk", σ, hG, hF, Ext.refl, Keep.refl, rfl⟩
  · rintro I i v m₁ news2 h' tk₁ itI hI hv ⟨j1, j2, j3, j4, j5, σi, j6, j7, j8, j9, j10⟩ mI hcI mW2 F N
    rw [List.getElem?_map] at hv
    obtain ⟨ki, hki, rfl⟩ := Option.map_eq_some_iff.mp hv
    have hmem : ki ∈ ks := List.mem_of_getElem? hki
    have hlt : ki < k := ok.wf k _ hk ki hmem
    have hil : i < ks.length := by
      rcases Nat.lt_or_ge i ks.length with h | h
      · exact h
      · rw [List.getElem?_eq_none h] at hki; cases hki
    have hki2 : x.exs[ki]? = some x.exs[ki] := List.getElem?_eq_getElem (by omega)
    obtain ⟨es2, c2, md2, ho2⟩ := j6.oid ki _ hki2
    repeat kp_kind "s"
    refine ex_core F X N ((j6.exp ki _ hki2).ex md2) (getL_oids ho2 (by decide +kernel)) ?_
    repeat kp_kind "s"
    refine IH ki hmem G' F N (by rw [depth_deeper]; omega) hhan j6 (j7.mono (by omega)) hp (fun v h' tkk n' σ' F N hG' hF' hext hkp hv2 => ?_)
    have hFk := j7.up hF' hext hkp
    have hexk := hext.mono (show ki + 1 ≤ k by omega)
    have hex2 := j8.trans hexk j9
    have hkp2 := j9.trans hkp j8
    have hdrop : ks.drop i = ki :: ks.drop (i + 1) := by
      rw [List.drop_eq_getElem_cons hil]
      have : ks[i] = ki := by rw [List.getElem?_eq_getElem hil] at hki; exact Option.some.inj hki
      rw [this]
    rw [hdrop] at j10
    have j10 : (rs x.txt x.exs ki p).or (anySem (rs x.txt x.exs) (ks.drop (i + 1)) p) = _ := j10
    have hnI : ¬ isD itI := fun q => by
      have q : itI.cls = .type "dict" := q
      rw [hcI] at q; exact absurd q (by decide)
    have mI2 : (I, itI) ∈ n' := hkp.2 _ mI (.inl hnI)
    have mW3 : (mt, tupO (ks.map fun i => .ref (x.ads.getD i 0))) ∈ n' := hkp.2 _ mW2 (.inl tup_nd)
    repeat kp_kind "s"
    cases hs : rs x.txt x.exs ki p with
    | none =>
      rw [hs] at hv2 j10
      have hv2 : v = .none := hv2
      subst hv2
      refine isnot_none_gen ?_
      repeat kp_kind "s"
      refine itF (by decide) ?_
      repeat kp_kind "s"
      exact ⟨h', _, _, _, rfl, F, N, mI2, mW3, by kp_kind "lk", by kp_kind "lk", by kp_kind "lk", by kp_kind "lk", by kp_kind "lk", σ', hG', hFk, hex2, hkp2, j10⟩
    | some q =>
      rw [hs] at hv2 j10
      have hnd : NodeAt n' v p q := hv2
      refine isnot_none_gen ?_
      repeat kp_kind "s"
      first | with_reducible refine itT (by obtain ⟨a, dx, ch, fe, ft, t1, t4, rfl, _⟩ := hnd; rfl) ?_ | refine itT (by obtain ⟨a, dx, ch, fe, ft, t1, t4, rfl, _⟩ := hnd; rfl) ?_
      repeat kp_kind "s"
      first | with_reducible refine call_KWn ?_ | refine call_KWn ?_
      repeat kp_kind "s"
      first | with_reducible refine callWith_KW X (by k_is) (by rfl) ?_ | refine callWith_KW X (by k_is) (by rfl) ?_
      repeat kp_kind "s"
      refine node_end F X N hnd (fun t7 tkk => ?_)
      repeat kp_kind "s"
      first | with_reducible refine kws_cons ?_ | refine kws_cons ?_
      repeat kp_kind "s"
      refine r_newList F N (by show 1 ≤ sizeLine; decide) (fun l0 h' F N lc0 => ?_)
      first | with_reducible refine kws_nil ?_ | refine kws_nil ?_
      repeat kp_kind "s"
      refine node_make (p0 := p) (q := q) (ch := .ref l0) (.inr (.inr ⟨rfl, rfl⟩)) (.inr ⟨l0, [v], 0, rfl, .head _, by simp⟩) G' F N (by rw [depth_deeper]; omega) (fun v2 h' tkk n2 F N sub hnd2 => ?_)
      kp_kind "k"
      have sub' : ∀ q ∈ n', q ∈ n2 := fun q hq => sub q (.tail _ hq)
      refine hret v2 _ _ n2 σ' F N (hG'.sup sub') (hFk.sup sub') hex2 (hkp2.trans (Keep.sup (σ := σ') sub') hex2) ?_
      show ValOk n2 (anySem _ ks p) p v2
      rw [← j10]; exact hnd2
  · rintro I m₁ news2 h' tk₁ hI ⟨j1, j2, j3, j4, j5, σi, j6, j7, j8, j9, j10⟩ F N
    refine wpAny_execs_nil ?_
    repeat kp_kind "s"
    kp_kind "k"
    rw [List.length_map, List.drop_length] at j10
    refine hret .none _ _ news2 σi F N j6 j7 j8 j9 ?_
    show ValOk news2 (anySem _ ks p) p .none
    rw [← j10]; exact rfl
end
end Vy
end
section
open PyProof.V PyProof.Rows.LCg
namespace Vy
theorem rowSem_le {txt : List Nat} {sm : Nat → Nat → Option Nat} (h : ∀ k p q, p ≤ txt.length → sm k p = some q → q ≤ txt.length) (r : Row) (p q : Nat) (hp : p ≤ txt.length) (e : rowSem txt sm r p = some q) : q ≤ txt.length := by
  cases r with
  | word x =>
    have e : wordAt txt x p = some q := e
    unfold wordAt at e
    split at e
    · rename_i hc
      have := congrArg List.length hc
      rw [List.length_take, List.length_drop] at this
      cases e; omega
    · cases e
  | all ks =>
    have e : allSem sm ks p = some q := e
    induction ks generalizing p with
    | nil => cases e; exact hp
    | cons k ks ih =>
      have e : (sm k p).bind (allSem sm ks) = some q := e
      obtain ⟨q', h1, h2⟩ := Option.bind_eq_some_iff.mp e
      exact ih q' (h k p q' hp h1) h2 h2
  | any ks =>
    have e : anySem sm ks p = some q := e
    induction ks with
    | nil => cases e
    | cons k ks ih =>
      have e : (sm k p).or (anySem sm ks p) = some q := e
      cases hs : sm k p with
      | none => rw [hs] at e; exact ih e e
      | some q' => rw [hs] at e; cases e; exact h k p _ hp hs
  | neg k =>
    have e : (if (sm k p).isSome then none else some p) = some q := e
    split at e
    · cases e
    · cases e; exact hp
  | look k =>
    have e : (if (sm k p).isSome then some p else none) = some q := e
    split at e
    · cases e; exact hp
    · cases e
theorem semsFrom_le {txt : List Nat} : ∀ (rows : List Row) (acc : List (Nat → Option Nat)), (∀ f ∈ acc, ∀ p q, p ≤ txt.length → f p = some q → q ≤ txt.length) → ∀ f ∈ semsFrom txt acc rows, ∀ p q, p ≤ txt.length → f p = some q → q ≤ txt.length
  | [], acc, h => h
  | r :: rows, acc, h => by
    refine semsFrom_le rows (acc ++ [rowSem txt (getF acc) r]) fun f hf p q hp e => ?_
    rcases List.mem_append.mp hf with hf | hf
    · exact h f hf p q hp e
    · simp only [List.mem_singleton] at hf
      subst hf
      refine rowSem_le (fun k p q hp e => ?_) r p q hp e
      unfold getF at e
      rw [List.getD_eq_getElem?_getD] at e
      cases hk : acc[k]? with
      | none => rw [hk] at e; cases e
      | some f => rw [hk] at e; exact h f (List.mem_of_getElem? hk) p q hp e
theorem rs_le {txt : List Nat} {rows : List Row} {k p q : Nat} (hp : p ≤ txt.length) (e : rs txt rows k p = some q) : q ≤ txt.length := by
  unfold rs getF at e
  rw [List.getD_eq_getElem?_getD] at e
  cases hk : (sems txt rows)[k]? with
  | none => rw [hk] at e; cases e
  | some f => rw [hk] at e; exact semsFrom_le rows [] (fun f hf => by cases hf) f (List.mem_of_getElem? hk) p q hp e
theorem Keep.putl {x : Mx} {σ : Gs} {n m : Led} {l : Addr} {o : Obj} (h : Keep x σ n m) (hl : ∀ p ∈ n, p.1 ≠ l) : Keep x σ n (put l o m) :=
  ⟨fun p hp => by obtain ⟨o, ho, q⟩ := h.1 p hp; exact ⟨o, put_ne ho (hl p hp), q⟩, fun p hp q => put_ne (h.2 p hp q) (hl p hp)⟩
section
variable {prog : Program} {w : World} {x : Mx}
theorem unc_all (ok : x.Ok) {k : Nat} {ks : List Nat} (hk : x.exs[k]? = some (.all ks)) (IH : ∀ i ∈ ks, MSpec prog w x i) : USpec prog w x k (.all ks) := by
  intro A env g L m news s R σ p tp tx G F N hdep hhan hG hF hp hret
  obtain ⟨h', gn, dr, tk0, os0⟩ := s
  have hkl : k < x.exs.length := by
    rcases Nat.lt_or_ge k x.exs.length with h | h
    · exact h
    · rw [List.getElem?_eq_none h] at hk; cases hk
  show codeAny _ _ (.call (.ref 384) _) _ _
  refine enterN G F N (by k_is) (by k_is) (by omega) (binds := [("self", .ref (x.ads.getD k 0)), ("text", .str (S x.txt) tx), ("pos", .int (nI p) tp), ("cache", .ref x.cache), ("error", .ref x.err)]) (BindsTo.of_eq rfl) (locs rfl) (fun g' L' h' G' keep F N lt => ?_) (by decide) rfl rfl rfl
  have ⟨X, ⟨p', loose, mean, mg, mb, T⟩, _, _, _⟩ := G'
  have hE := hG.exp k _ hk
  obtain ⟨es, c, md, ho⟩ := hG.oid k _ hk
  obtain ⟨o, m1, t2, it, mt, rfl, hmt⟩ := id hE
  repeat kp_kind "s"
  refine r_newList F N (by simp) (fun l0 h' F N lc0 => ?_)
  repeat kp_kind "s"
  refine get_slot F X (inst_of N (.tail _ m1) (.tail _ md)) (by k_is) (by k_is) (by k_is) (by k_is) (by k_is) (by k_is) rfl rfl ?_
  have hl0 : ∀ q ∈ news, q.1 ≠ l0 := fun q hq => Nat.ne_of_lt (lc0 q hq)
  refine r_iterTup (news := (l0, listOf (List.toArray []) 0) :: news) (J := fun I i m n => m "self" = some (.ref (x.ads.getD k 0)) ∧ m "text" = some (.str (S x.txt) tx) ∧ m "pos" = some (.int (nI p) tp) ∧ m "cache" = some (.ref x.cache) ∧ m "error" = some (.ref x.err) ∧ m "children" = some (.ref l0) ∧
    ∃ σi vs nn q, (l0, listOf (List.toArray vs) nn) ∈ n ∧ vs.length = i ∧ LInt m "new_pos" (nI q) ∧ q ≤ x.txt.length ∧ GAt prog w x n σi ∧ FinLt x σi n k ∧ Ext news k σ σi ∧ Keep x σ news n ∧ allSem (rs x.txt x.exs) (ks.drop i) q = allSem (rs x.txt x.exs) ks p) hhan (by rfl) (by rfl) F N (.tail _ hmt) ?_ ?_ ?_ ?_
  · rintro I i m n n' hI hO ⟨j1, j2, j3, j4, j5, ja, σi, vs, nn, q, jb, jc, jd, je, j6, j7, j8, j9, j10⟩
    exact ⟨j1, j2, j3, j4, j5, ja, σi, vs, nn, q, hO _ jb (.inl (ord_list _ _)), jc, jd, je, j6.off fun p hp ho => hO p hp (.inl (gd_ord ho)), j7.off fun p hp ho => hO p hp (.inl (gd_ord ho)), j8, j9.off (fun p hp => hI p (.tail _ hp)) hO, j10⟩
  · intro I hI
    have sb : ∀ q ∈ news, q ∈ (l0, listOf (List.toArray []) 0) :: news := fun q hq => .tail _ hq
    exact ⟨by kp_kind "lk", by kp_kind "lk", by kp_kind "lk", by kp_kind "lk", by kp_kind "lk", by kp_kind "lk", σ, [], 0, p, .head _, rfl, ⟨_, by kp_kind "lk"⟩, hp, hG.sup sb, hF.sup sb, Ext.refl, Keep.sup sb, rfl⟩
  · rintro I i v m₁ news2 h' tk₁ itI hI hv ⟨j1, j2, j3, j4, j5, ja, σi, vs, nn, q, jb, jc, ⟨tq, jd⟩, je, j6, j7, j8, j9, j10⟩ mI hcI mW2 F N
    rw [List.getElem?_map] at hv
    obtain ⟨ki, hki, rfl⟩ := Option.map_eq_some_iff.mp hv
    have hmem : ki ∈ ks := List.mem_of_getElem? hki
    have hlt : ki < k := ok.wf k _ hk ki hmem
    have hil : i < ks.length := by
      rcases Nat.lt_or_ge i ks.length with h | h
      · exact h
      · rw [List.getElem?_eq_none h] at hki; cases hki
    have hks3 : ks.length ≤ 3 := by rcases ok.sh _ (List.mem_of_getElem? hk) with h | h <;> omega
    have hki2 : x.exs[ki]? = some x.exs[ki] := List.getElem?_eq_getElem (by omega)
    obtain ⟨es2, c2, md2, ho2⟩ := j6.oid ki _ hki2
    repeat kp_kind "s"
    refine ex_core F X N ((j6.exp ki _ hki2).ex md2) (getL_oids ho2 (by decide +kernel)) ?_
    repeat kp_kind "s"
    refine IH ki hmem G' F N (by rw [depth_deeper]; omega) hhan j6 (j7.mono (by omega)) je (fun v h' tkk n' σ' F N hG' hF' hext hkp hv2 => ?_)
    have hFk := j7.up hF' hext hkp
    have hexk := hext.mono (show ki + 1 ≤ k by omega)
    have hex2 := j8.trans hexk j9
    have hkp2 := j9.trans hkp j8
    have hdrop : ks.drop i = ki :: ks.drop (i + 1) := by
      rw [List.drop_eq_getElem_cons hil]
      have : ks[i] = ki := by rw [List.getElem?_eq_getElem hil] at hki; exact Option.some.inj hki
      rw [this]
    rw [hdrop] at j10
    have j10 : (rs x.txt x.exs ki q).bind (allSem (rs x.txt x.exs) (ks.drop (i + 1))) = _ := j10
    have hnI : ¬ isD itI := fun q => by
      have q : itI.cls = .type "dict" := q
      rw [hcI] at q; exact absurd q (by decide)
    have hnL : ¬ isD (listOf (List.toArray vs) nn) := fun q => gd_nl (gd_d q)
    have mI2 : (I, itI) ∈ n' := hkp.2 _ mI (.inl hnI)
    have mL2 : (l0, listOf (List.toArray vs) nn) ∈ n' := hkp.2 _ jb (.inl hnL)
    have mW3 : (mt, tupO (ks.map fun i => .ref (x.ads.getD i 0))) ∈ n' := hkp.2 _ mW2 (.inl tup_nd)
    repeat kp_kind "s"
    refine is_none_gen ?_
    repeat kp_kind "s"
    cases hs : rs x.txt x.exs ki q with
    | none =>
      rw [hs] at hv2 j10
      have hv2 : v = .none := hv2
      subst hv2
      first | with_reducible refine itT (by decide) ?_ | refine itT (by decide) ?_
      repeat kp_kind "s"
      kp_kind "k"
      refine hret .none _ _ n' σ' F N hG' hFk hex2 hkp2 ?_
      show ValOk n' (allSem _ ks p) p .none
      rw [← j10]; exact rfl
    | some q2 =>
      rw [hs] at hv2 j10
      have hnd : NodeAt n' v q q2 := hv2
      refine itF (by obtain ⟨a, dx, ch, fe, ft, t1, t4, rfl, _⟩ := hnd; simp) ?_
      repeat kp_kind "s"
      first | with_reducible refine listMethod_K N mL2 PySem.F.slot_list_append PySem.F.type_list_append ?_ | refine listMethod_K N mL2 PySem.F.slot_list_append PySem.F.type_list_append ?_
      repeat kp_kind "s"
      have N0 := N
      refine r_append F N mL2 (by rw [sizeLine_eq, List.size_toArray]; omega) (fun h' F N => ?_)
      have up : ∀ p ∈ n', gd p.2 → p ∈ put l0 (listOf ((List.toArray vs).push v) (nn + 1)) n' := fun p hp hg => put_ne hp fun e => by
        have e1 := (N0 p hp).1
        rw [e, (N0 _ mL2).1] at e1
        rw [← Option.some.inj e1] at hg
        exact gd_nl hg
      have hnd2 : NodeAt (put l0 (listOf ((List.toArray vs).push v) (nn + 1)) n') v q q2 := ValOk.off (o := some q2) hnd up
      repeat kp_kind "s"
      refine node_end F X N hnd2 (fun t7 tkk => ?_)
      repeat kp_kind "s"
      refine node_start F X N hnd2 (fun t8 tkk => ?_)
      repeat kp_kind "s"
      first | with_reducible refine r_sub (c := nI q2 - nI q) rfl ?_ | refine r_sub (c := nI q2 - nI q) rfl ?_
      repeat kp_kind "s"
      first | with_reducible refine r_iadd (c := nI q2) (by simp only [nI]; omega) ?_ | refine r_iadd (c := nI q2) (by simp only [nI]; omega) ?_
      repeat kp_kind "s"
      refine ⟨h', _, _, _, rfl, F, N, put_ne mI2 (Ne.symm (hI _ (.head _))), up _ mW3 gd_t, by kp_kind "lk", by kp_kind "lk", by kp_kind "lk", by kp_kind "lk", by kp_kind "lk", by kp_kind "lk", σ', vs ++ [v], nn + 1, q2, ?_, by simp [jc], ⟨_, by kp_kind "lk"⟩, rs_le je hs, hG'.off up, hFk.off up, hex2, hkp2.putl hl0, j10⟩
      have := put_self (o' := listOf ((List.toArray vs).push v) (nn + 1)) mL2
      simpa using this
  · rintro I m₁ news2 h' tk₁ hI ⟨j1, j2, j3, j4, j5, ja, σi, vs, nn, q, jb, jc, ⟨tq, jd⟩, je, j6, j7, j8, j9, j10⟩ F N
    refine wpAny_execs_nil ?_
    repeat kp_kind "s"
    have hks3 : ks.length ≤ 3 := by rcases ok.sh _ (List.mem_of_getElem? hk) with h | h <;> omega
    rw [List.length_map] at jc
    rw [List.length_map, List.drop_length] at j10
    refine node_make (p0 := p) (q := q) (ch := .ref l0) (.inr (.inl ⟨rfl, rfl⟩)) (.inr ⟨l0, vs, nn, rfl, jb, by omega⟩) G' F N (by rw [depth_deeper]; omega) (fun v2 h' tkk n2 F N sub hnd2 => ?_)
    kp_kind "k"
    refine hret v2 _ _ n2 σi F N (j6.sup sub) (j7.sup sub) j8 (j9.trans (Keep.sup (σ := σi) sub) j8) ?_
    show ValOk n2 (allSem _ ks p) p v2
    rw [← j10]; exact hnd2
end
end Vy
end
section
open PyProof.V PyProof.Rows.LCg
namespace Vy
section
variable {prog : Program} {w : World} {A : Around} {env : Env} {g : Heap} {m : Str → Option Value} {news : Led} {R : Result → Shared → Prop}
variable {hs : Heap} {gn : Array GenState} {dr : Drawn} {tk : Nat} {os : OsState}
/-- a loop over a tuple of the ledger -/
theorem r_iterTupG {elts : List Expr} {x1 : Nat} {tp : Pos} {body orelse : List Stmt} {l : Addr} {vs : List Value} {E : Value → Shared → Prop}
    (hh : A.handled = none)
    (F : Fr g env.locals hs m) (N : News g env.locals hs news) (hm : (l, tupO vs) ∈ news)
    (J : Addr → Nat → (Str → Option Value) → Led → Prop) (Jm : ∀ I i m n n', (∀ p ∈ news, p.1 ≠ I) → Off [I] n n' → J I i m n → J I i m n') (h0 : ∀ I, (∀ p ∈ news, p.1 ≠ I) → J I 0 m news)
    (turn : ∀ I i v m₁ news₁ h₁ tk₁ it, (∀ p ∈ news, p.1 ≠ I) → vs[i]? = some v → J I i m₁ news₁ → (I, it) ∈ news₁ → it.cls = .type "tuple_iterator" → (l, tupO vs) ∈ news₁ →
      Fr g env.locals h₁ m₁ → News g env.locals h₁ news₁ →
      wpAny (model prog w) A (assign (.Tuple elts x1 tp) env v) (fun _ s₂ => wpAny (model prog w) A (execs body env) (fun f s₃ => match f with
        | .next | .cont => ∃ h₂ tk₂ m₂ news₂, s₃ = ⟨h₂, gn, dr, tk₂, os⟩ ∧ Fr g env.locals h₂ m₂ ∧ News g env.locals h₂ news₂ ∧ (I, it) ∈ news₂ ∧ (l, tupO vs) ∈ news₂ ∧ J I (i + 1) m₂ news₂
        | .brk => R (.ok .next) s₃
        | .ret v => R (.ok (.ret v)) s₃) NoE s₂) NoE ⟨h₁, gn, dr, tk₁, os⟩)
    (done : ∀ I m₁ news₁ h₁ tk₁, (∀ p ∈ news, p.1 ≠ I) → J I vs.length m₁ news₁ → Fr g env.locals h₁ m₁ → News g env.locals h₁ news₁ → wpAny (model prog w) A (execs orelse env) (fun f s₃ => R (.ok f) s₃) NoE ⟨h₁, gn, dr, tk₁, os⟩) :
    wpAny (model prog w) A (pyIter (.ref l)) (fun it s₂ => codeAny (model prog w) A (.forLoop (.Tuple elts x1 tp) it body orelse env) R s₂) E ⟨hs, gn, dr, tk, os⟩ := by
  have D := N _ hm
  refine wpAny_pyIter_tuple (isTup_of N hm) ?_
  have hlt : ∀ p ∈ news, p.1 ≠ hs.objs.size := fun p hp => Nat.ne_of_lt (Heap.lt_size (N p hp).1)
  have hIg : g.get? hs.objs.size = none := by
    cases q : g.get? hs.objs.size with
    | none => rfl
    | some o => exact absurd (Heap.lt_size (F.keep _ _ q)) (Nat.lt_irrefl _)
  have hIL : env.locals ≠ hs.objs.size := by
    obtain ⟨oL, _, _, hL, _⟩ := F.ns
    exact Nat.ne_of_lt (Heap.lt_size hL)
  let it0 : Obj := { cls := .type "tuple_iterator", data := .fields #[.ref l, .int 0 0] }
  have N2 : News g env.locals (hs.push it0) ((hs.objs.size, it0) :: news) := N.push F it0
  have hord : ord (tupO vs) := ord_tup _
  refine r_loopG (W := Walks.tuple hh hs.objs.size l (hlt _ hm) (List.toArray vs)) (fun i v s Q E st q => letGo_tupleiter st.1 q) (by simp [hIL]; exact fun e => D.2.1 e.symm) (by simpa using hIg)
    (fun b hb i h st => ?_) ⟨⟨_, Heap.get?_push_size _ rfl, rfl, rfl⟩, (isTup_of N hm).push _⟩ (F.push _) N2 (fun i m n => J hs.objs.size i m n ∧ (l, tupO vs) ∈ n)
    (fun i m n n' hO hJ => ⟨Jm _ _ _ _ _ hlt hO hJ.1, hO _ hJ.2 (.inl hord)⟩)
    ⟨Jm _ _ _ _ _ hlt (fun p hp _ => .tail _ hp) (h0 _ hlt), .tail _ hm⟩ ?_ ?_
  · obtain ⟨o, ho, hc, _⟩ := st.1
    simp only [List.mem_singleton] at hb
    subst hb
    exact ⟨o, ho, fun q => by first | exact q.1 hc | exact q.2.1 hc | exact q.2.2 hc⟩
  · intro i v m₁ news₁ h₁ tk₁ own hi hP hJ hsub hown hall hst F₁ N₁
    obtain ⟨oI, hoI, hcI, _⟩ := hst.1
    have mI := hall hs.objs.size (by simp) hIg oI hoI
    have hv : (List.toArray vs)[i]? = some v := hP
    refine wpAny_mono (turn hs.objs.size i v m₁ news₁ h₁ tk₁ oI hlt (by simpa using hv) hJ.1 (hown _ mI) hcI hJ.2 F₁ N₁) (fun _ s₂ h₂ => wpAny_mono h₂ (fun f s₃ h₃ => ?_) fun _ _ e => e) fun _ _ e => e
    have fin : (∃ h₂ tk₂ m₂ news₂, s₃ = ⟨h₂, gn, dr, tk₂, os⟩ ∧ Fr g env.locals h₂ m₂ ∧ News g env.locals h₂ news₂ ∧ (hs.objs.size, oI) ∈ news₂ ∧ (l, tupO vs) ∈ news₂ ∧ J hs.objs.size (i + 1) m₂ news₂) →
        ∃ h₂ tk₂ m₂ news₂, s₃ = ⟨h₂, gn, dr, tk₂, os⟩ ∧ Fr g env.locals h₂ m₂ ∧ News g env.locals h₂ news₂ ∧ (∀ p ∈ own, p ∈ news₂) ∧ J hs.objs.size (i + 1) m₂ news₂ ∧ (l, tupO vs) ∈ news₂ := by
      rintro ⟨h₂, tk₂, m₂, news₂, e, F₂, N₂, mI₂, ml₂, hJ₂⟩
      refine ⟨h₂, tk₂, m₂, news₂, e, F₂, N₂, fun p hp => ?_, hJ₂, ml₂⟩
      have e1 := (N₁ _ (hown p hp)).1
      rcases List.mem_cons.mp (hsub p hp) with q | q
      · rw [q, hoI] at e1
        have : p = (hs.objs.size, oI) := Prod.ext q (Option.some.inj e1).symm
        exact this ▸ mI₂
      · have q : p.1 = l := by simpa using q
        rw [q, (N₁ _ hJ.2).1] at e1
        have : p = (l, tupO vs) := Prod.ext q (Option.some.inj e1).symm
        exact this ▸ ml₂
    cases f with
    | next => exact fin h₃
    | cont => exact fin h₃
    | brk => exact h₃
    | ret v => exact h₃
  · intro m₁ news₁ h₁ tk₁ hJ F₁ N₁
    rw [List.size_toArray] at hJ
    exact done _ m₁ news₁ h₁ tk₁ hlt hJ.1 F₁ N₁
end
end Vy
end
section
open PyProof.V PyProof.Rows.LCg PySem.Builtin PySem.Builtin.ObjectAttr
namespace Vy
theorem findObj_miss {K : Frag} {C : Addr} {od : Obj} {name : Str} (hh : hasDictIn K C = true) (ha : findIn K (.ref C) name = some none) (hc : copiedNames.contains name = false) (hl : lookIn name od = some none) :
    findObj K C (some od) name = some .missing := by
  obtain ⟨cd, hc', hd⟩ := any_some hh
  unfold findObj
  have ho : PySem.W.ownOf cd (some od) name = some none := by unfold PySem.W.ownOf; rw [if_pos hd]; exact hl
  rw [hc', Option.bind_some, ha, Option.bind_some]
  simp only [Option.bind_some, ho, hc, Bool.false_and, Bool.false_eq_true, if_false]
section
variable {prog : Program} {w : World} {A : Around} {E : Value → Shared → Prop} {s : Shared} {g : Heap} {L : Addr} {m : Str → Option Value} {news : List (Addr × Obj)} {t : Tok} {dflt : Value} {Q : Value → Shared → Prop}
theorem oids_miss {a C dx : Addr} {sl : Array (Option Value)} {n : Nat} {cd : ClassData} (hA : A.handled = none) (F : Fr g L s.heap m) (X : (hd.heap_39 w.params).In g) (N : News g L s.heap news) (h1 : (a, ⟨.ref C, some dx, .plain, sl⟩) ∈ news) (h2 : (dx, dictOf [] n) ∈ news)
    (hg : plainGet (hd.heap_39 w.params) C "oids" = true) (hsub : subIn (hd.heap_39 w.params) (.ref C) (.type "module") = some false) (hh : hasDictIn (hd.heap_39 w.params) C = true) (ha : findIn (hd.heap_39 w.params) (.ref C) "oids" = some none)
    (hc : clsIn (hd.heap_39 w.params) C = some cd) (hcn : cd.name.cps.foldl (fun k c => k + (Str.utf8Of c).length) 0 ≤ 100) (hml : (((s!"'{cd.name.toString}' object has no attribute '" : String) : Str) ++ ("oids" : Str) ++ "'").length ≤ sizeLine)
    (h : ∀ h' tk, Fr g L h' m → News g L h' news → Q dflt { s with heap := h', toks := tk }) :
    wpAny (model prog w) A (call (.builtin "getattr") [.ref a, .str "oids" t, dflt]) Q E s := by
  have X' := X.keeps F.keep
  have I := inst_of N h1 h2
  have P := plainGet_of hg
  refine ga3_instoids X' I hsub ?_
  exact ga?_miss hA F N X' I P.1 (findObj_miss hh ha (by decide +kernel) rfl) P.2 (by rfl) hc hcn hml h
theorem oids_here {a C dx : Addr} {sl : Array (Option Value)} {n : Nat} {hs : Int} {tk0 : Tok} {v : Value} (F : Fr g L s.heap m) (X : (hd.heap_39 w.params).In g) (N : News g L s.heap news) (h1 : (a, ⟨.ref C, some dx, .plain, sl⟩) ∈ news) (h2 : (dx, dictOf [⟨hs, .str "oids" tk0, v⟩] n) ∈ news)
    (hg : plainGet (hd.heap_39 w.params) C "oids" = true) (hsub : subIn (hd.heap_39 w.params) (.ref C) (.type "module") = some false) (hh : hasDictIn (hd.heap_39 w.params) C = true) (ha : findIn (hd.heap_39 w.params) (.ref C) "oids" = some none)
    (hv : handedIn v = true) (h : Q v s) :
    wpAny (model prog w) A (call (.builtin "getattr") [.ref a, .str "oids" t, dflt]) Q E s := by
  have X' := X.keeps F.keep
  have I := inst_of N h1 h2
  have P := plainGet_of hg
  refine ga3_instoids X' I hsub ?_
  exact ga?_value X' I P.1 (findObj_own hh ha rfl (by rfl)) hv h
theorem ex_oids {ads : List Addr} {es : List DictEntry} {n k : Nat} {r : Row} {l : List (Nat × Addr)} (hA : A.handled = none) (F : Fr g L s.heap m) (X : (hd.heap_39 w.params).In g) (N : News g L s.heap news) (h : ExAt news ads es n k r) (ho : OidsAt news es l)
    (q0 : l = [] → ∀ h' tk, Fr g L h' m → News g L h' news → Q dflt { s with heap := h', toks := tk })
    (q1 : ∀ tp ps, l ≠ [] → (tp, tupO (ps.map .ref)) ∈ news → All2 (fun a (ic : Nat × Addr) => ∃ t, (a, tupO [.int (nI ic.1) t, .ref ic.2]) ∈ news) ps l → Q (.ref tp) s) :
    wpAny (model prog w) A (call (.builtin "getattr") [.ref (ads.getD k 0), .str "oids" t, dflt]) Q E s := by
  obtain ⟨dx, o, m1, m2, h⟩ := h
  rcases ho with ⟨rfl, hl⟩ | ⟨hsh, tk0, tp, ps, rfl, hm, hps, hl⟩
  · cases r with
    | word x =>
      obtain ⟨t1, t2, it, rfl⟩ := h
      exact oids_miss hA F X N m1 m2 (by k_is) (by k_is) (by k_is) (by k_is) (by k_is) (by decide +kernel) (by decide +kernel) (q0 hl)
    | all ks =>
      obtain ⟨t2, it, mt, rfl, _⟩ := h
      exact oids_miss hA F X N m1 m2 (by k_is) (by k_is) (by k_is) (by k_is) (by k_is) (by decide +kernel) (by decide +kernel) (q0 hl)
    | any ks =>
      obtain ⟨t2, it, mt, rfl, _⟩ := h
      exact oids_miss hA F X N m1 m2 (by k_is) (by k_is) (by k_is) (by k_is) (by k_is) (by decide +kernel) (by decide +kernel) (q0 hl)
    | neg i =>
      obtain ⟨t2, it, mt, rfl, _⟩ := h
      exact oids_miss hA F X N m1 m2 (by k_is) (by k_is) (by k_is) (by k_is) (by k_is) (by decide +kernel) (by decide +kernel) (q0 hl)
    | look i =>
      obtain ⟨t2, it, mt, rfl, _⟩ := h
      exact oids_miss hA F X N m1 m2 (by k_is) (by k_is) (by k_is) (by k_is) (by k_is) (by decide +kernel) (by decide +kernel) (q0 hl)
  · cases r with
    | word x =>
      obtain ⟨t1, t2, it, rfl⟩ := h
      exact oids_here F X N m1 m2 (by k_is) (by k_is) (by k_is) (by k_is) rfl (q1 tp ps hl hm hps)
    | all ks =>
      obtain ⟨t2, it, mt, rfl, _⟩ := h
      exact oids_here F X N m1 m2 (by k_is) (by k_is) (by k_is) (by k_is) rfl (q1 tp ps hl hm hps)
    | any ks =>
      obtain ⟨t2, it, mt, rfl, _⟩ := h
      exact oids_here F X N m1 m2 (by k_is) (by k_is) (by k_is) (by k_is) rfl (q1 tp ps hl hm hps)
    | neg i =>
      obtain ⟨t2, it, mt, rfl, _⟩ := h
      exact oids_here F X N m1 m2 (by k_is) (by k_is) (by k_is) (by k_is) rfl (q1 tp ps hl hm hps)
    | look i =>
      obtain ⟨t2, it, mt, rfl, _⟩ := h
      exact oids_here F X N m1 m2 (by k_is) (by k_is) (by k_is) (by k_is) rfl (q1 tp ps hl hm hps)
end
end Vy
end
section
open PyProof.V PyProof.Rows.LCg
namespace Vy
section
variable {prog : Program} {w : World} {A : Around} {E : Value → Shared → Prop} {s : Shared} {g : Heap} {L : Addr} {m : Str → Option Value} {news : List (Addr × Obj)} {Q : Value → Shared → Prop}
theorem r_isProg {o : Option Nat} {p : Nat} {v : Value} (F : Fr g L s.heap m) (X : (hd.heap_39 w.params).In g) (N : News g L s.heap news) (hv : ValOk news o p v) (h : Q (.bool false) s) : wpAny (model prog w) A (compareOp .Is v (.ref 220)) Q E s := by
  have ht : ∃ t, typeIn (hd.heap_39 w.params) (.ref 220) = some t := ⟨_, by k_is⟩
  obtain ⟨t, ht⟩ := ht
  obtain ⟨o2, ho2, _⟩ := Option.map_eq_some_iff.mp (show ((hd.heap_39 w.params).lookup 220).map (·.cls) = some t from ht)
  have h2 := X 220 o2 ho2
  cases o with
  | none =>
    have hv : v = .none := hv
    subst hv
    exact wpAny_is_other rfl (by simp) h
  | some q =>
    obtain ⟨a, dx, ch, fe, ft, t1, t2, rfl, h1, _⟩ := (show NodeAt news v p q from hv)
    refine wpAny_is_ref_other (x := a) (y := 220) (fun e => ?_) (N _ h1).1 (F.keep _ _ h2) (by simp) h
    have := (N _ h1).2.2
    rw [show a = 220 from e] at this
    rw [h2] at this
    cases this
end
end Vy
end
section
open PyProof.V PyProof.Rows.LCg PySem.Builtin PySem.Builtin.ObjectAttr
namespace Vy
theorem slot_bga : Slot "BaseException" "__getattribute__" "BaseException.__getattribute__" := .of (owner := "BaseException") (n := "__getattribute__") (by rw [typeLookup_type, builtinLookup_eq_fast]; kernel_rfl) (by decide +kernel) (by decide +kernel) (by decide +kernel)
  (by first | exact .inl (by decide +kernel) | exact .inr (by decide +kernel)) (by rw [isSubtype_type]; kernel_rfl)
theorem entry_bga : entryFor table "BaseException.__getattribute__" = some Builtin.«object.__getattribute__» := PySem.F.entry_bexc_ga
theorem bga_args (o a : Value) : argsOk "BaseException.__getattribute__" ⟨[o, a], []⟩ := PySem.F.args_bexc_ga _ _
theorem bga_kind : builtinKind "BaseException.__getattribute__" = some .slot := by decide +kernel
theorem bga_split : splitId "BaseException.__getattribute__" = some ("BaseException", "__getattribute__") := by decide +kernel
section
variable {prog : Program} {w : World} {A : Around} {E : Value → Shared → Prop} {s : Shared} {g : Heap} {L : Addr} {m : Str → Option Value} {news : List (Addr × Obj)} {t : Tok} {Q : Value → Shared → Prop}
theorem exc_get {x : Addr} {ox : Obj} {es : List DictEntry} {n : Nat} {name : Str} {expr : Bool} {v : Value} (F : Fr g L s.heap m) (X₀ : (hd.heap_39 w.params).In g) (I : InstAt s.heap x ox 94 (some (dictOf es n)))
    (ha : findIn (hd.heap_39 w.params) (.ref 94) name = some none) (hl : getL name es = some (some v)) (hh : handedIn v = true) (h : ∀ tk, Q v { s with toks := tk }) : wpAny (model prog w) A (getAttr (.ref x) name expr) Q E s := by
  have X := X₀.keeps F.keep
  have hga : findIn (hd.heap_39 w.params) (.ref 94) "__getattribute__" = some (some (.builtin "BaseException.__getattribute__")) := by k_is
  have hk : findIn (hd.heap_39 w.params) (.ref 94) "__getattr__" = some none := by k_is
  have hsub : subIn (hd.heap_39 w.params) (.ref 94) (.type "BaseException") = some true := by k_is
  have hhd : hasDictIn (hd.heap_39 w.params) 94 = true := by k_is
  have hf : findObj (hd.heap_39 w.params) 94 (some (dictOf es n)) name = some (.value v) := findObj_own hhd ha rfl (by show lookIn name (dictOf es n) = _; rw [lookIn_dict, hl])
  obtain ⟨hp, gg, d, tk, os⟩ := s
  have L0 := I.type (M := model prog w)
  have L1 := looks_findIn (M := model prog w) X hga
  have L2 := looks_findIn (M := model prog w) X hk
  have L3 := looks_find (M := model prog w) X I hf
  have L4 : Looks (model prog w) hp (isInstance (.ref x) (.type "BaseException")) true := I.type.andThen (looks_subIn X hsub)
  unfold getAttr getAttrBy
  refine wpAny_bind (wpAny_mkText (wpAny_holding (wpAny_bind (L0.at (wpAny_bind (L1.at ?_))))))
  show wpAny _ _ (getAttrByItsOwn _ _ _ _ _ _) _ _ _
  unfold getAttrByItsOwn
  refine wpAny_bind (L2.at (wpAny_bind (wpAny_attempt (wpAny_holding ?_))))
  unfold callGetattribute
  rw [show (expr && onTheHeap (Value.builtin "BaseException.__getattribute__")) = false from Bool.and_false _, if_neg (by decide)]
  unfold boundAndCalled
  rw [slot_bga.bind]
  refine wpAny_bind (wpAny_pure ?_)
  show wpAny _ _ (call (.builtin "BaseException.__getattribute__") [.ref x, .str name tk]) _ _ _
  refine wpAny_call ?_
  refine codeAny_call_builtin slot_bga.plain entry_bga ?_
  refine @check_slot (model prog w) _ _ _ "BaseException.__getattribute__" "BaseException" "__getattribute__" (.ref x) [.str name tk] [] _ bga_kind bga_split L4 (bga_args _ _) ?_
  unfold Builtin.«object.__getattribute__»
  refine wpAny_bind (wpAny_pure ?_)
  refine wpAny_bind (wpAny_pure ?_)
  refine wpAny_bind (L0.at (wpAny_bind (L3.at ?_)))
  refine wpAny_pure ?_
  show wpAny _ _ (handedOut v) _ _ _
  exact handed_on hh (h _)
end
end Vy
end
section
open PyProof.V PyProof.Rows.LCg PySem.Builtin PySem.Builtin.ObjectAttr
namespace Vy
def excOnly : List Value → Bool
  | [.type a, .type b, .type c] => a == "Exception" && b == "BaseException" && c == "object"
  | .ref _ :: r => excOnly r
  | _ => false
theorem refuse_exc (self : Value) : ∀ {l : List Value}, excOnly l = true → refuseLoop self "__setattr__" l = pure ()
  | [.type a, .type b, .type c], e => by
    unfold excOnly at e
    simp only [Bool.and_eq_true, beq_iff_eq] at e
    obtain ⟨⟨rfl, rfl⟩, rfl⟩ := e
    exact PySem.F.store_Exception.passes self
  | .ref c :: r, e => by rw [refuseLoop_ref]; exact refuse_exc self (l := r) (by rcases r with _ | ⟨a, _ | ⟨b, _ | ⟨c, d⟩⟩⟩ <;> first | exact e | (unfold excOnly at e; exact e))
theorem exc_has : ∀ {l : List Value}, excOnly l = true → l.contains (.type "object") = true
  | [.type a, .type b, .type c], e => by
    unfold excOnly at e
    simp only [Bool.and_eq_true, beq_iff_eq] at e
    obtain ⟨⟨rfl, rfl⟩, rfl⟩ := e
    simp
  | .ref c :: r, e => by rw [List.contains_cons, exc_has (l := r) (by rcases r with _ | ⟨a, _ | ⟨b, _ | ⟨c, d⟩⟩⟩ <;> first | exact e | (unfold excOnly at e; exact e)), Bool.or_true]
section
variable {prog : Program} {w : World} {A : Around} {E : Value → Shared → Prop} {s : Shared} {K : Frag} {x C dx L : Addr} {h₀ : Heap} {m : Str → Option Value} {news news' : List (Addr × Obj)} {ox od : Obj} {es es' : List DictEntry} {n n' : Nat} {name : Str} {v : Value} {R : Result → Shared → Prop} {cd : ClassData}
theorem osa_openE {od : Option Obj} {tk : Tok} {r : Option Value} (X : K.In s.heap) (I : InstAt s.heap x ox C od) (hc : clsIn K C = some cd) (ho : excOnly cd.mro = true) (ht : takerIn K C name = some r)
    (h : ∀ b, wpAny (model prog w) A.in1 (match r with | some a => setByDescriptor a (.ref x) v | none => storeInOwnDict (.ref x) (.ref C) (.str name tk) name v b)
      (fun fin s' => match fin with | .done f => R (.ok f) s' | .again c' => c'.quiet = true ∧ codeAny (model prog w) A c' R s') (fun e s' => R (.error e) s') s) :
    codeAny (model prog w) A (.call (.builtin "object.__setattr__") ⟨[.ref x, .str name tk, v], []⟩) R s := by
  have SF := PySem.F.store_object
  have ne : cd.mro.isEmpty = false := by cases q : cd.mro with | nil => rw [q] at ho; cases ho | cons _ _ => rfl
  have sub : Looks (model prog w) s.heap (isInstance (.ref x) (.type "object")) true := I.type.andThen (looks_mroIn X (by unfold mroIn; rw [hc, Option.bind_some, if_neg (by rw [ne]; decide), exc_has ho]))
  refine codeAny_call_builtin SF.slot.plain SF.entry (@check_slot (model prog w) _ _ s "object.__setattr__" "object" "__setattr__" (.ref x) [.str name tk, v] [] _ SF.kind SF.split sub (SF.args (.ref x) (.str name tk) v) ?_)
  obtain ⟨attr, ha, hr⟩ := Option.bind_eq_some_iff.mp ht
  have hm : Looks (model prog w) s.heap (mroOf (.ref C)) cd.mro := (looks_clsIn X hc).andThen .now
  have L3 : Looks (model prog w) s.heap (storeTaker? attr) r := by
    cases attr with
    | none => cases hr; exact .now
    | some a =>
      obtain ⟨b, hb, rfl⟩ := Option.map_eq_some_iff.mp hr
      refine (looks_takesIn X hb).andThen ?_
      cases b <;> exact .now
  rw [osa_eq, refuse_eq]
  refine wpAny_bind (wpAny_bind (I.type.here (wpAny_bind (hm.here ?_))))
  rw [refuse_exc _ ho]
  refine wpAny_pure (wpAny_bind (I.type.here (wpAny_bind ((looks_findIn X ha).here (wpAny_bind (L3.here ?_))))))
  exact h _
theorem exc_set {Q : Unit → Shared → Prop} {ox : Obj} {es' : Nat → List DictEntry} (F : Fr h₀ L s.heap m) (X₀ : K.In h₀) (N : News h₀ L s.heap news) (hx : s.heap.get? x = some ox) (hcl : ox.cls = .ref C) (hn : notCls ox = true) (hd : ox.dict = some dx) (hm : (dx, dictOf es n) ∈ news)
    (hs : findIn K (.ref C) "__setattr__" = some (some (.builtin "object.__setattr__"))) (hc : clsIn K C = some cd) (ho : excOnly cd.mro = true) (hh : cd.hasDict = true) (ht : takerIn K C name = some none) (hl : (getL name es).isSome = true)
    (e : ∀ tk, (putL name (PyData.keyHash w.params name) (.str name tk) v es, putN name es n) = (es' tk, n')) (hz : ∀ tk, (es' tk).length ≤ 1000)
    (h : ∀ h' tk0, Fr h₀ L h' m → News h₀ L h' (put dx (dictOf (es' tk0) n') news) → ∀ tk, Q () { s with heap := h', toks := tk }) :
    wpAny (model prog w) A (setAttr (.ref x) name v) Q E s := by
  have X := X₀.keeps F.keep
  obtain ⟨hp, gg, dd, tk, os⟩ := s
  dsimp only at X F N hx h
  have D := (N _ hm).1
  have I : InstAt hp x ox C (some (dictOf es n)) := by
    obtain ⟨oc, odi, oda, osl⟩ := ox
    dsimp only at hcl hd
    subst hcl hd
    exact ⟨hx, rfl, hn, D⟩
  refine set_plain X I hs (osa_openE (s := ⟨hp, gg, dd, tk + 1, os⟩) X I hc ho ht fun b => ?_)
  obtain ⟨e1, e2⟩ := Prod.mk.inj (e (tk + 1))
  have U := news_upd (pre := []) (f := Obj.putName name (PyData.keyHash w.params name) (.str name (tk + 1)) v) F (split_at N hm) (fun _ q => nomatch q) (fun p hp => by simpa using (List.mem_filter.mp hp).2) (by rw [putName_dict, e1, e2]) rfl
  obtain ⟨U1, U2⟩ := U
  have D' := (U2 _ (List.mem_cons_self)).1
  have U3 := put_at U2
  obtain ⟨oc, odi, oda, osl⟩ := ox
  dsimp only at hcl hd
  subst hcl hd
  refine wpAny_bind (wpAny_pure (wpAny_bind (wpAny_bind (wpAny_loadPart hx (wpAny_bind ((looks_clsIn X hc).here (s := ⟨hp, gg, dd, tk + 1, os⟩) ?_))))))
  rw [hh]
  refine wpAny_pure (a := some dx) (wpAny_bind (wpAny_pure (wpAny_bind ?_)))
  unfold nsSet
  refine wpAny_bind (wpAny_bind (wpAny_askSetting (wpAny_pure (wpAny_bind (wpAny_mkText (wpAny_bind (wpAny_loadPart D ?_)))))))
  dsimp only [dictOf]
  have c : (!es.toArray.any (·.key.isStr name) && es.toArray.any (·.refKey)) = false := by
    rw [← Array.any_toList, ← Array.any_toList]
    show (!es.any (·.key.isStr name) && es.any (·.refKey)) = false
    unfold getL at hl
    split at hl
    · rename_i en he
      rw [List.any_eq_true.mpr ⟨en, List.mem_of_find?_eq_some he, List.find?_some he⟩]; rfl
    · split at hl
      · cases hl
      · rename_i z; rw [Bool.not_eq_true] at z; rw [z, Bool.and_false]
  rw [aRefKeyMayBeTheName_at, c]
  refine wpAny_updatePart D ?_
  refine wpAny_bind (wpAny_lookBehind D' (pastItsLine_dict (by have := hz (tk + 1); rw [List.size_toArray, sizeLine_eq]; omega)) ?_)
  exact wpAny_pure (h _ _ U1 U3 _)
end
end Vy
end
section
open PyProof.V PyProof.Rows.LCg
namespace Vy
section
variable {M : Model} {A : Around} {E : Value → Shared → Prop} {s : Shared} {env : Env}
theorem r_assignSub {o i : Expr} {pos : Pos} {v : Value} {Q : Unit → Shared → Prop}
    (h : wpAny M A (eval o env) (fun ov s₁ => wpAny M A (eval i env) (fun iv s₂ => wpAny M A (setItem ov iv v) Q E s₂) E s₁) E s) : wpAny M A (assign (.Subscript o i pos) env v) Q E s := fun Γ p hΓ => by
  simp only [arm_assign_Subscript, Sem.wp_bind', Sem.wp_holding, Sem.wp_cmd_standAt, Sem.wp_release, Sem.wp_pure']
  exact Sem.wp_mono M Γ _ (fun ov p₁ s₁ h₁ => Sem.wp_mono M Γ _ (fun iv _ s₂ h₂ => h₂ Γ _ hΓ) (fun _ _ _ h' => h') _ _ (h₁ Γ p₁ hΓ)) (fun _ _ _ h' => h') _ _ (h Γ _ hΓ)
end
section
variable {prog : Program} {w : World} {A : Around} {E : Value → Shared → Prop} {s : Shared} {g : Heap} {L : Addr} {m : Str → Option Value} {news : List (Addr × Obj)} {x : Mx}
theorem ex_setOids {k c : Nat} {r : Row} {es : List DictEntry} {v : Value} {Q : Unit → Shared → Prop} (F : Fr g L s.heap m) (X : (hd.heap_39 w.params).In g) (N : News g L s.heap news) (hE : EAt news x k r) (hd : (x.dxs.getD k 0, dictOf es c) ∈ news)
    (he : es = [] ∨ ∃ h t w, es = [⟨h, .str "oids" t, w⟩])
    (h : ∀ h' hh tk c', Fr g L h' m → News g L h' (put (x.dxs.getD k 0) (dictOf [⟨hh, .str "oids" tk, v⟩] c') news) → ∀ tk', Q () { s with heap := h', toks := tk' }) : wpAny (model prog w) A (setAttr (.ref (x.ads.getD k 0)) "oids" v) Q E s := by
  obtain ⟨o, m1, hE⟩ := hE
  rcases he with rfl | ⟨hh, t, w0, rfl⟩ <;> cases r with
  | word y =>
    obtain ⟨t1, t2, it, rfl⟩ := hE
    exact set_dict F X (split_at N hd) (inst_of N m1 hd) rfl (by k_is) (by k_is) (by k_is) (by k_is) rfl rfl upd_at (by show 1 ≤ 1000; decide) fun h' F' N' => h h' _ _ _ F' (put_at N') _
  | all ks =>
    obtain ⟨t2, it, mt, rfl, _⟩ := hE
    exact set_dict F X (split_at N hd) (inst_of N m1 hd) rfl (by k_is) (by k_is) (by k_is) (by k_is) rfl rfl upd_at (by show 1 ≤ 1000; decide) fun h' F' N' => h h' _ _ _ F' (put_at N') _
  | any ks =>
    obtain ⟨t2, it, mt, rfl, _⟩ := hE
    exact set_dict F X (split_at N hd) (inst_of N m1 hd) rfl (by k_is) (by k_is) (by k_is) (by k_is) rfl rfl upd_at (by show 1 ≤ 1000; decide) fun h' F' N' => h h' _ _ _ F' (put_at N') _
  | neg i =>
    obtain ⟨t2, it, mt, rfl, _⟩ := hE
    exact set_dict F X (split_at N hd) (inst_of N m1 hd) rfl (by k_is) (by k_is) (by k_is) (by k_is) rfl rfl upd_at (by show 1 ≤ 1000; decide) fun h' F' N' => h h' _ _ _ F' (put_at N') _
  | look i =>
    obtain ⟨t2, it, mt, rfl, _⟩ := hE
    exact set_dict F X (split_at N hd) (inst_of N m1 hd) rfl (by k_is) (by k_is) (by k_is) (by k_is) rfl rfl upd_at (by show 1 ≤ 1000; decide) fun h' F' N' => h h' _ _ _ F' (put_at N') _
theorem News.uniq {h : Heap} {a : Addr} {o o' : Obj} (N : News g L h news) (h1 : (a, o) ∈ news) (h2 : (a, o') ∈ news) : o = o' := by
  have e1 := (N _ h1).1
  have e2 := (N _ h2).1
  rw [e1] at e2
  exact Option.some.inj e2
theorem Keep.putD {σ : Gs} {n m : Led} {d : Addr} {o o' : Obj} {h : Heap} (hk : Keep x σ n m) (N : News g L h m) (hw : x.W σ d) (hd : (d, o) ∈ m) (h1 : isD o) (h2 : isD o') : Keep x σ n (put d o' m) := by
  refine ⟨fun p hp => ?_, fun p hp q => ?_⟩
  · obtain ⟨o2, hm, hi⟩ := hk.1 p hp
    by_cases e : p.1 = d
    · exact ⟨o', by rw [e]; exact put_self hd, fun _ => h2⟩
    · exact ⟨o2, put_ne hm e, hi⟩
  · have hm := hk.2 p hp q
    by_cases e : p.1 = d
    · have hm2 : (d, p.2) ∈ m := e ▸ hm
      have hu := News.uniq N hm2 hd
      rcases q with q | q
      · exact absurd (hu ▸ h1) q
      · exact absurd (e ▸ hw) q
    · exact put_ne hm e
/-- a store into a memo -/
theorem GAt.store {n n' : Led} {σ : Gs} {i : Nat} {e : En} {f' : Nat → Option Value} (ok : x.Ok) (hG : GAt prog w x n σ) (hi : σ.C[i]? = some e) (hk : Keep x σ n n') (hn : ∀ p ∈ n, p.1 ≠ e.d → p ∈ n')
    (hD : DicM prog w n' e.d f' (x.txt.length + 1) (fun _ => True)) : GAt prog w x n' { σ with C := σ.C.set i ⟨e.own, e.d, f'⟩ } := by
  have hm := List.mem_of_getElem? hi
  have hsep := hG.sep e hm
  have hil : i < σ.C.length := by
    rcases Nat.lt_or_ge i σ.C.length with q | q
    · exact q
    · rw [List.getElem?_eq_none q] at hi; cases hi
  have hmo : (σ.C.set i ⟨e.own, e.d, f'⟩).map En.own = σ.C.map En.own := by
    refine List.ext_getElem? fun j => ?_
    rw [List.getElem?_map, List.getElem?_map, List.getElem?_set]
    by_cases q : i = j
    · subst q; rw [if_pos rfl, if_pos hil, hi]; rfl
    · rw [if_neg q]
  have hmd : (σ.C.set i ⟨e.own, e.d, f'⟩).map En.d = σ.C.map En.d := by
    refine List.ext_getElem? fun j => ?_
    rw [List.getElem?_map, List.getElem?_map, List.getElem?_set]
    by_cases q : i = j
    · subst q; rw [if_pos rfl, if_pos hil, hi]; rfl
    · rw [if_neg q]
  have hcur : ∀ j, curOf (σ.C.set i ⟨e.own, e.d, f'⟩) j = curOf σ.C j := by
    have gen : ∀ (C D : List En) (b j : Nat), C.map En.own = D.map En.own → C.map En.d = D.map En.d → curFrom b C j = curFrom b D j := by
      intro C
      induction C with
      | nil => intro D b j h1 h2; cases D with
        | nil => rfl
        | cons a D => cases h1
      | cons c C ih => intro D b j h1 h2; cases D with
        | nil => cases h1
        | cons a D =>
          rw [List.map_cons, List.map_cons] at h1 h2
          injection h1 with a1 a2
          injection h2 with b1 b2
          unfold curFrom
          rw [a1, b1, ih D (b + 1) j a2 b2]
    exact fun j => gen _ _ 0 j hmo hmd
  have mem' : ∀ a ∈ σ.C.set i ⟨e.own, e.d, f'⟩, a = ⟨e.own, e.d, f'⟩ ∨ (a ∈ σ.C ∧ a.d ≠ e.d) := by
    intro a ha
    obtain ⟨j, hj⟩ := List.getElem?_of_mem ha
    rw [List.getElem?_set] at hj
    by_cases q : i = j
    · subst q; rw [if_pos rfl, if_pos hil] at hj; exact .inl (Option.some.inj hj).symm
    · rw [if_neg q] at hj
      refine .inr ⟨List.mem_of_getElem? hj, fun z => q ?_⟩
      have nd := hG.own.2.1
      have e1 : (σ.C.map En.d)[i]? = some e.d := by rw [List.getElem?_map, hi]; rfl
      have e2 : (σ.C.map En.d)[j]? = some e.d := by rw [List.getElem?_map, hj]; exact congrArg some z
      exact (List.getElem?_inj (by simpa using hil) nd).mp (e1.trans e2.symm)
  have ed' : ∀ a ∈ σ.C.set i ⟨e.own, e.d, f'⟩, ∃ b ∈ σ.C, b.d = a.d ∧ b.own = a.own := by
    intro a ha
    rcases mem' a ha with rfl | ⟨h, _⟩
    · exact ⟨e, hm, rfl, rfl⟩
    · exact ⟨a, h, rfl, rfl⟩
  refine ⟨fun j r h => (hG.exp j r h).keep hk, fun j r h => ?_, ?_, fun a ha => ?_, fun j ic hic => ?_, ?_, ?_, fun a ha => ?_, hG.oln⟩
  · obtain ⟨es, c, m1, ho⟩ := hG.oid j r h
    refine ⟨es, c, hn _ m1 fun q => hsep.1 ?_, ?_⟩
    · have q : x.dxs.getD j 0 = e.d := q
      rw [← q]
      have hj : j < x.exs.length := by
        rcases Nat.lt_or_ge j x.exs.length with z | z
        · exact z
        · rw [List.getElem?_eq_none z] at h; cases h
      rw [← ok.len.2.1] at hj
      rw [List.getD_eq_getElem?_getD, List.getElem?_eq_getElem hj]
      exact List.getElem_mem hj
    · show OidsAt n' es (curOf (σ.C.set i ⟨e.own, e.d, f'⟩) j ++ σ.olds j)
      rw [hcur]; exact ho.keep hk
  · obtain ⟨o, kvs, hp, hdd, lo, hkk, hf, hP⟩ := hG.che
    refine ⟨o, kvs, hn _ hp (fun q => hsep.2.1 q.symm), hdd, lo, ?_, fun p => ?_, ?_⟩
    · show ∀ kv ∈ kvs, 0 ≤ kv.1 ∧ kv.1 < ((σ.C.set i ⟨e.own, e.d, f'⟩).length : Nat)
      rw [List.length_set]; exact hkk
    · rw [hf p]
      show (σ.C[p]?).map (fun e => Value.ref e.d) = ((σ.C.set i ⟨e.own, e.d, f'⟩)[p]?).map (fun e => Value.ref e.d)
      have : ∀ C : List En, (C[p]?).map (fun e => Value.ref e.d) = (C.map En.d)[p]?.map Value.ref := by intro C; rw [List.getElem?_map, Option.map_map]; rfl
      rw [this, this, hmd]
    · show kvs.length = (σ.C.set i ⟨e.own, e.d, f'⟩).length
      rw [List.length_set]; exact hP
  · rcases mem' a ha with rfl | ⟨h, hne⟩
    · exact hD
    · obtain ⟨o, kvs, hp, r⟩ := hG.mem a h
      exact ⟨o, kvs, hn _ hp hne, r⟩
  · obtain ⟨⟨o, ho, hd⟩, hne⟩ := hG.old j ic hic
    obtain ⟨o', ho', hd'⟩ := hk.1 _ ho
    refine ⟨⟨o', ho', hd' hd⟩, fun a ha => ?_⟩
    obtain ⟨b, hb, hbd, _⟩ := ed' a ha
    exact hbd ▸ hne b hb
  · refine ⟨?_, ?_, fun a ha => ?_⟩
    · show ((σ.C.set i ⟨e.own, e.d, f'⟩).map En.own).Nodup
      rw [hmo]; exact hG.own.1
    · show ((σ.C.set i ⟨e.own, e.d, f'⟩).map En.d).Nodup
      rw [hmd]; exact hG.own.2.1
    · obtain ⟨b, hb, _, hbo⟩ := ed' a ha
      exact hbo ▸ hG.own.2.2 b hb
  · obtain ⟨⟨oE, m1, hc, r1⟩, h1, h2, h3, t1, t2, t3, v1, i2, t, v3, m2, r2⟩ := hG.err
    exact ⟨⟨oE, hk.2 _ m1 (.inl fun q => by unfold isD at q; rw [hc] at q; cases q), hc, r1⟩, h1, h2, h3, t1, t2, t3, v1, i2, t, v3, hn _ m2 (fun q => hsep.2.2 q.symm), r2⟩
  · obtain ⟨b, hb, hbd, _⟩ := ed' a ha
    exact hbd ▸ hG.sep b hb
/-- a new memo -/
theorem GAt.new {n n' : Led} {σ : Gs} {k d c : Nat} {r : Row} {es : List DictEntry} (ok : x.Ok) (hG : GAt prog w x n σ) (hk : x.exs[k]? = some r) (hno : curOf σ.C k = []) (hK : Keep x σ n n')
    (hfr : ∀ p ∈ n, p.1 ≠ d) (hn : ∀ p ∈ n, p.1 ≠ x.cache → p.1 ≠ x.dxs.getD k 0 → p ∈ n') (hC : DicM prog w n' x.cache (fun q => if q = σ.C.length then some (.ref d) else (σ.C[q]?).map fun e => .ref e.d) (σ.C.length + 1) (fun l => l = σ.C.length + 1))
    (hD : DicM prog w n' d (fun _ => none) (x.txt.length + 1) (fun _ => True)) (hx : (x.dxs.getD k 0, dictOf es c) ∈ n') (ho : OidsAt n' es ((σ.C.length, d) :: σ.olds k)) : GAt prog w x n' { σ with C := σ.C ++ [⟨k, d, fun _ => none⟩] } := by
  have lt : ∀ {j r}, x.exs[j]? = some r → j < x.exs.length := fun {j r} h => by
    rcases Nat.lt_or_ge j x.exs.length with z | z
    · exact z
    · rw [List.getElem?_eq_none z] at h; cases h
  have hdx : ∀ j, j < x.exs.length → x.dxs.getD j 0 ∈ x.dxs := fun j hj => by
    rw [← ok.len.2.1] at hj
    rw [List.getD_eq_getElem?_getD, List.getElem?_eq_getElem hj]
    exact List.getElem_mem hj
  have hnok : ∀ e ∈ σ.C, e.own ≠ k := fun e he q => by
    obtain ⟨j, a, _, _, hc⟩ := cur_some (i := 0) ⟨e, he, q⟩
    have : curFrom 0 σ.C k = [] := hno
    rw [hc] at this; cases this
  have hcur : ∀ j, curOf (σ.C ++ [⟨k, d, fun _ => none⟩]) j = if j = k then [(σ.C.length, d)] else curOf σ.C j := by
    intro j
    unfold curOf
    rw [cur_snoc]
    by_cases q : j = k
    · subst q; rw [if_pos ⟨hnok, rfl⟩, if_pos rfl, Nat.zero_add]
    · rw [if_neg q, if_neg fun z => q z.2.symm]
  have mem' : ∀ a ∈ σ.C ++ [⟨k, d, fun _ => none⟩], a ∈ σ.C ∨ a = ⟨k, d, fun _ => none⟩ := fun a ha => by
    rcases List.mem_append.mp ha with h | h
    · exact .inl h
    · exact .inr (by simpa using h)
  have hxd : ∀ j r, x.exs[j]? = some r → x.dxs.getD j 0 ≠ d := fun j r h q => by
    obtain ⟨es, c, m1, _⟩ := hG.oid j r h
    exact hfr _ m1 q
  refine ⟨fun j r h => (hG.exp j r h).keep hK, fun j r h => ?_, ?_, fun a ha => ?_, fun j ic hic => ?_, ?_, ?_, fun a ha => ?_, hG.oln⟩
  · by_cases q : j = k
    · subst q
      refine ⟨es, c, hx, ?_⟩
      show OidsAt n' es (curOf (σ.C ++ [⟨j, d, fun _ => none⟩]) j ++ σ.olds j)
      rw [hcur, if_pos rfl]; exact ho
    · obtain ⟨es2, c2, m1, ho2⟩ := hG.oid j r h
      refine ⟨es2, c2, hn _ m1 (fun z => ok.c.1 (z ▸ hdx j (lt h))) (fun z => q ?_), ?_⟩
      · have z : x.dxs.getD j 0 = x.dxs.getD k 0 := z
        have lj := lt h
        have lk := lt hk
        rw [← ok.len.2.1] at lj lk
        rw [List.getD_eq_getElem?_getD, List.getD_eq_getElem?_getD, List.getElem?_eq_getElem lj, List.getElem?_eq_getElem lk] at z
        exact (List.getElem?_inj lj ok.nd).mp (by rw [List.getElem?_eq_getElem lj, List.getElem?_eq_getElem lk]; exact congrArg some z)
      · show OidsAt n' es2 (curOf (σ.C ++ [⟨k, d, fun _ => none⟩]) j ++ σ.olds j)
        rw [hcur, if_neg q]; exact ho2.keep hK
  · show DicM prog w n' x.cache (fun i => ((σ.C ++ [(⟨k, d, fun _ => none⟩ : En)])[i]?).map fun e => .ref e.d) (σ.C ++ [(⟨k, d, fun _ => none⟩ : En)]).length (fun l => l = (σ.C ++ [(⟨k, d, fun _ => none⟩ : En)]).length)
    have e1 : (fun i : Nat => ((σ.C ++ [(⟨k, d, fun _ => none⟩ : En)])[i]?).map fun e => Value.ref e.d) = fun q => if q = σ.C.length then some (.ref d) else (σ.C[q]?).map fun e => .ref e.d := by
      funext q
      rcases Nat.lt_trichotomy q σ.C.length with z | z | z
      · rw [List.getElem?_append_left z, if_neg (by omega : ¬ q = σ.C.length)]
      · subst z; simp
      · rw [List.getElem?_eq_none (by simp; omega), if_neg (by omega), List.getElem?_eq_none (l := σ.C) (by omega)]
    rw [e1, List.length_append]
    exact hC
  · rcases mem' a ha with h | rfl
    · obtain ⟨o, kvs, hp, rr⟩ := hG.mem a h
      have hs := hG.sep a h
      exact ⟨o, kvs, hn _ hp hs.2.1 (fun z => hs.1 (by rw [show a.d = x.dxs.getD k 0 from z]; exact hdx k (lt hk))), rr⟩
    · exact hD
  · obtain ⟨⟨o, ho, hd⟩, hne⟩ := hG.old j ic hic
    obtain ⟨o', ho', hd'⟩ := hK.1 _ ho
    refine ⟨⟨o', ho', hd' hd⟩, fun a ha => ?_⟩
    rcases mem' a ha with h | rfl
    · exact hne a h
    · exact fun q => hfr _ ho q.symm
  · refine ⟨?_, ?_, fun a ha => ?_⟩
    · show ((σ.C ++ [(⟨k, d, fun _ => none⟩ : En)]).map En.own).Nodup
      rw [List.map_append, List.nodup_append]
      refine ⟨hG.own.1, by simp, fun a ha b hb => ?_⟩
      obtain ⟨e, he, rfl⟩ := List.mem_map.mp ha
      simp at hb
      subst hb
      exact hnok e he
    · show ((σ.C ++ [(⟨k, d, fun _ => none⟩ : En)]).map En.d).Nodup
      rw [List.map_append, List.nodup_append]
      refine ⟨hG.own.2.1, by simp, fun a ha b hb => ?_⟩
      obtain ⟨e, he, rfl⟩ := List.mem_map.mp ha
      simp at hb
      subst hb
      obtain ⟨o, kvs, hp, _⟩ := hG.mem e he
      exact hfr _ hp
    · rcases mem' a ha with h | rfl
      · exact hG.own.2.2 a h
      · exact lt hk
  · obtain ⟨⟨oE, m1, hc, r1⟩, h1, h2, h3, t1, t2, t3, v1, i2, t, v3, m2, r2⟩ := hG.err
    exact ⟨⟨oE, hK.2 _ m1 (.inl fun q => by unfold isD at q; rw [hc] at q; cases q), hc, r1⟩, h1, h2, h3, t1, t2, t3, v1, i2, t, v3, hn _ m2 ok.c.2.2 (fun z => ok.c.2.1 (by rw [show x.ed = x.dxs.getD k 0 from z]; exact hdx k (lt hk))), r2⟩
  · rcases mem' a ha with h | rfl
    · exact hG.sep a h
    · refine ⟨fun q => ?_, fun q => ?_, fun q => ?_⟩
      · obtain ⟨j, hj, e⟩ := List.getElem_of_mem q
        have hj' : j < x.exs.length := ok.len.2.1 ▸ hj
        refine hxd j _ (List.getElem?_eq_getElem hj') ?_
        rw [List.getD_eq_getElem?_getD, List.getElem?_eq_getElem hj]
        exact e
      · obtain ⟨o, kvs, hp, _⟩ := hG.che
        exact hfr _ hp q.symm
      · obtain ⟨_, _, _, _, _, _, _, _, _, _, _, m2, _⟩ := hG.err
        exact hfr _ m2 q.symm
theorem r_addTup1 {t b : Addr} {v : Value} {ws : List Value} {Q : Value → Shared → Prop} (F : Fr g L s.heap m) (N : News g L s.heap news) (h1 : (t, tupO [v]) ∈ news) (h2 : (b, tupO ws) ∈ news) (hz : ws.length ≤ 2000)
    (h : ∀ D h' n', Fr g L h' m → News g L h' n' → (∀ q ∈ news, q ∈ n') → (D, tupO (v :: ws)) ∈ n' → Q (.ref D) { s with heap := h' }) : wpAny (model prog w) A (binaryOp .Add (.ref t) (.ref b)) Q E s := by
  cases ws with
  | nil => exact kde_addT1 F N (News.isTup N h1) (News.isTup N h2) (List.cons_ne_nil _ _) rfl (by show 1 + 0 ≤ 16384; omega) (h _ _ _ F N (fun _ q => q) h1)
  | cons w0 ws => exact kde_addT F N (News.isTup N h1) (News.isTup N h2) (List.cons_ne_nil _ _) (List.cons_ne_nil _ _) (by show 1 + (w0 :: ws).length ≤ 16384; omega) (rfl : _ = v :: w0 :: ws) fun D h' F' N' _ => h _ _ _ F' N' (fun _ q => .tail _ q) (.head _)
theorem Keep.on {σ : Gs} {n m m' : Led} (h : Keep x σ n m) (k : ∀ q ∈ m, q ∈ m') : Keep x σ n m' :=
  ⟨fun p hp => let ⟨o, a, b⟩ := h.1 p hp; ⟨o, k _ a, b⟩, fun p hp q => k _ (h.2 p hp q)⟩
theorem dicM_empty {d : Addr} {n : Led} {b : Nat} (h : (d, { cls := .type "dict", data := .dict #[] }) ∈ n) (hd : (d == sysModules) = false) : DicM prog w n d (fun _ => none) b (fun _ => True) :=
  ⟨_, [], h, ⟨#[], 0, ⟨rfl, rfl, rfl⟩, rfl, fun e he => by simp at he, .nil, by simp⟩, hd, fun _ q => (by cases q), fun _ => rfl, trivial⟩
theorem put_tup {h : Heap} {a d : Addr} {o o' : Obj} {vs : List Value} (N : News g L h news) (h1 : (a, tupO vs) ∈ news) (h2 : (d, o) ∈ news) (hd : isD o) : (a, tupO vs) ∈ put d o' news :=
  put_ne h1 fun e => tup_nd (vs := vs) ((News.uniq N (e ▸ h1 : (d, tupO vs) ∈ news) h2) ▸ hd)
end
end Vy
end
section
open PyProof.V PyProof.Rows.LCg
namespace Vy
theorem allSem_congr {f g : Nat → Nat → Option Nat} : ∀ (ks : List Nat), (∀ k ∈ ks, ∀ p, f k p = g k p) → ∀ p, allSem f ks p = allSem g ks p
  | [], _, _ => rfl
  | k :: ks, h, p => by
    unfold allSem
    rw [h k (.head _) p]
    cases g k p with
    | none => rfl
    | some q => exact allSem_congr ks (fun a ha => h a (.tail _ ha)) q
theorem anySem_congr {f g : Nat → Nat → Option Nat} : ∀ (ks : List Nat), (∀ k ∈ ks, ∀ p, f k p = g k p) → ∀ p, anySem f ks p = anySem g ks p
  | [], _, _ => rfl
  | k :: ks, h, p => by
    unfold anySem
    rw [h k (.head _) p]
    cases g k p with
    | none => exact anySem_congr ks (fun a ha => h a (.tail _ ha)) p
    | some q => rfl
theorem rowSem_congr {txt : List Nat} {f g : Nat → Nat → Option Nat} {r : Row} (h : ∀ k ∈ r.kids, ∀ p, f k p = g k p) (p : Nat) : rowSem txt f r p = rowSem txt g r p := by
  cases r with
  | word x => rfl
  | all ks => exact allSem_congr ks h p
  | any ks => exact anySem_congr ks h p
  | neg k => show (if (f k p).isSome then none else some p) = if (g k p).isSome then none else some p; rw [h k (.head _)]
  | look k => show (if (f k p).isSome then some p else none) = if (g k p).isSome then some p else none; rw [h k (.head _)]
theorem rs_row {txt : List Nat} {rows : List Row} (wf : WF rows) {k : Nat} {r : Row} (h : rows[k]? = some r) (p : Nat) : rs txt rows k p = rowSem txt (rs txt rows) r p := by
  have hl : k < rows.length := by
    rcases Nat.lt_or_ge k rows.length with z | z
    · exact z
    · rw [List.getElem?_eq_none z] at h; cases h
  have e : rows = (rows.take k ++ [r]) ++ rows.drop (k + 1) := by
    rw [List.getElem?_eq_getElem hl] at h
    have := Option.some.inj h
    subst this
    simp
  have lk : (rows.take k).length = k := by rw [List.length_take]; omega
  have e1 : rs txt rows k p = rowSem txt (rs txt (rows.take k)) r p := by
    conv => lhs; rw [e]
    rw [rs_append (by simp; omega)]
    have := rs_last (txt := txt) (a := rows.take k) (r := r) (p := p)
    rw [lk] at this
    exact this
  rw [e1]
  refine rowSem_congr (fun j hj q => ?_) p
  have hjk := wf k r h j hj
  have e2 : rows = rows.take k ++ rows.drop k := (List.take_append_drop k rows).symm
  conv => rhs; rw [e2]
  rw [rs_append (by rw [lk]; exact hjk)]
section
variable {prog : Program} {w : World} {A : Around} {E : Value → Shared → Prop} {s : Shared} {g : Heap} {L : Addr} {m : Str → Option Value} {news : List (Addr × Obj)} {x : Mx}
theorem ex_unc {ads : List Addr} {es : List DictEntry} {n k : Nat} {r : Row} {pl : Sem Bool} {Q : Value × List Value → Shared → Prop} (F : Fr g L s.heap m) (X : (hd.heap_39 w.params).In g) (N : News g L s.heap news) (h : ExAt news ads es n k r)
    (he : getL "_uncached_match" es = some none) (q : Q (.ref r.unc, [.ref (ads.getD k 0)]) s) : wpAny (model prog w) A (getMethod (.ref (ads.getD k 0)) "_uncached_match" pl) Q E s := by
  obtain ⟨dx, o, m1, m2, h⟩ := h
  cases r with
  | word x =>
    obtain ⟨t1, t2, it, rfl⟩ := h
    exact method_inst (f := 325) F X (inst_of N m1 m2) (by k_is) (by k_is) (by k_is) he q
  | all ks =>
    obtain ⟨t2, it, mt, rfl, _⟩ := h
    exact method_inst (f := 384) F X (inst_of N m1 m2) (by k_is) (by k_is) (by k_is) he q
  | any ks =>
    obtain ⟨t2, it, mt, rfl, _⟩ := h
    exact method_inst (f := 410) F X (inst_of N m1 m2) (by k_is) (by k_is) (by k_is) he q
  | neg i =>
    obtain ⟨t2, it, mt, rfl, _⟩ := h
    exact method_inst (f := 447) F X (inst_of N m1 m2) (by k_is) (by k_is) (by k_is) he q
  | look i =>
    obtain ⟨t2, it, mt, rfl, _⟩ := h
    exact method_inst (f := 447) F X (inst_of N m1 m2) (by k_is) (by k_is) (by k_is) he q
theorem unc_keep {r : Row} : keepIn (hd.heap_39 w.params) (.ref r.unc) = true := by
  cases r with
  | word x => show keepIn (hd.heap_39 w.params) (.ref 325) = true; k_is
  | all ks => show keepIn (hd.heap_39 w.params) (.ref 384) = true; k_is
  | any ks => show keepIn (hd.heap_39 w.params) (.ref 410) = true; k_is
  | neg i => show keepIn (hd.heap_39 w.params) (.ref 447) = true; k_is
  | look i => show keepIn (hd.heap_39 w.params) (.ref 447) = true; k_is
theorem idx_lt {α : Type} {l : List α} {i : Nat} {a : α} (h : l[i]? = some a) : i < l.length := place_lt h
theorem Ext.store {n : Led} {k i : Nat} {σ : Gs} {e : En} {f' : Nat → Option Value} (hi : σ.C[i]? = some e) (hk : e.own < k) : Ext n k σ { σ with C := σ.C.set i ⟨e.own, e.d, f'⟩ } := by
  refine ⟨rfl, fun j a ha => ?_, fun j a hj ha => ?_⟩
  · by_cases q : i = j
    · subst q
      rw [hi] at ha; cases ha
      refine ⟨f', ?_, fun z => absurd z (by omega)⟩
      show (σ.C.set i _)[i]? = _
      rw [List.getElem?_set, if_pos rfl, if_pos (idx_lt hi)]
    · refine ⟨a.f, ?_, fun _ => rfl⟩
      show (σ.C.set i _)[j]? = _
      rw [List.getElem?_set, if_neg q]; exact ha
  · have := idx_lt ha
    rw [List.length_set] at this
    omega
theorem mem_set {σ : Gs} {i : Nat} {e a : En} {f' : Nat → Option Value} (hown : (σ.C.map En.own).Nodup) (hi : σ.C[i]? = some e) (ha : a ∈ σ.C.set i ⟨e.own, e.d, f'⟩) : a = ⟨e.own, e.d, f'⟩ ∨ (a ∈ σ.C ∧ a.own ≠ e.own) := by
  obtain ⟨j, hj⟩ := List.getElem?_of_mem ha
  rw [List.getElem?_set] at hj
  by_cases q : i = j
  · subst q; rw [if_pos rfl, if_pos (idx_lt hi)] at hj; exact .inl (Option.some.inj hj).symm
  · rw [if_neg q] at hj
    refine .inr ⟨List.mem_of_getElem? hj, fun z => q ?_⟩
    have e1 : (σ.C.map En.own)[i]? = some e.own := by rw [List.getElem?_map, hi]; rfl
    have e2 : (σ.C.map En.own)[j]? = some e.own := by rw [List.getElem?_map, hj]; exact congrArg some z
    exact (List.getElem?_inj (by simpa using idx_lt hi) hown).mp (e1.trans e2.symm)
/-- the values of one memo -/
theorem FinLt.store {n n' : Led} {σ : Gs} {k i : Nat} {e : En} {f' : Nat → Option Value} (h : FinLt x σ n k) (hown : (σ.C.map En.own).Nodup) (hi : σ.C[i]? = some e) (hk : Keep x σ n n')
    (hf : e.own < k → ∀ p v, f' p = some v → p ≤ x.txt.length ∧ ValOk n' (rs x.txt x.exs e.own p) p v) : FinLt x { σ with C := σ.C.set i ⟨e.own, e.d, f'⟩ } n' k := by
  intro a ha ho p v hv
  rcases mem_set hown hi ha with rfl | ⟨h1, _⟩
  · exact hf ho p v hv
  · have := h a h1 ho p v hv
    exact ⟨this.1, this.2.keep hk⟩
theorem keep_store {σ : Gs} {n : Led} {e : En} {o o' : Obj} {h : Heap} (N : News g L h n) (he : e ∈ σ.C) (hd : (e.d, o) ∈ n) (h1 : isD o) (h2 : isD o') : Keep x σ n (put e.d o' n) :=
  Keep.refl.putD N (.inr (.inr (.inr ⟨e, he, rfl⟩))) hd h1 h2
end
end Vy
end
section
open PyProof.V PyProof.Rows.LCg PySem.Builtin PySem.Builtin.ObjectAttr
namespace Vy
section
variable {prog : Program} {w : World} {A : Around} {E : Value → Shared → Prop} {s : Shared} {g : Heap} {L : Addr} {m : Str → Option Value} {news : List (Addr × Obj)} {x : Mx} {σ : Gs}
theorem cls94 : ∃ cd, clsIn (hd.heap_39 w.params) 94 = some cd ∧ excOnly cd.mro = true ∧ cd.hasDict = true := ⟨_, by k_is, by decide +kernel, rfl⟩
theorem err_pos {expr : Bool} {Q : Value → Shared → Prop} (F : Fr g L s.heap m) (X : (hd.heap_39 w.params).In g) (N : News g L s.heap news) (h : ErrAt news x)
    (q : ∀ i t tk, Q (.int i t) { s with toks := tk }) : wpAny (model prog w) A (getAttr (.ref x.err) "pos" expr) Q E s := by
  obtain ⟨⟨oE, m1, hc, hd1, hn⟩, h1, h2, h3, t1, t2, t3, v1, i, t, v3, m2, _⟩ := h
  exact exc_get F X ⟨(N _ m1).1, hc, hn, by rw [hd1]; exact (N _ m2).1⟩ (by k_is) rfl rfl (q _ _)
theorem err_expr {expr : Bool} {Q : Value → Shared → Prop} (F : Fr g L s.heap m) (X : (hd.heap_39 w.params).In g) (N : News g L s.heap news) (h : ErrAt news x)
    (q0 : ∀ tk, Q .none { s with toks := tk }) (q1 : ∀ j r, x.exs[j]? = some r → ∀ tk, Q (.ref (x.ads.getD j 0)) { s with toks := tk }) : wpAny (model prog w) A (getAttr (.ref x.err) "expr" expr) Q E s := by
  obtain ⟨⟨oE, m1, hc, hd1, hn⟩, h1, h2, h3, t1, t2, t3, v1, i, t, v3, m2, h4⟩ := h
  rcases h4 with rfl | ⟨j, r, hj, rfl⟩
  · exact exc_get F X ⟨(N _ m1).1, hc, hn, by rw [hd1]; exact (N _ m2).1⟩ (by k_is) rfl rfl q0
  · exact exc_get F X ⟨(N _ m1).1, hc, hn, by rw [hd1]; exact (N _ m2).1⟩ (by k_is) rfl rfl (q1 j r hj)
theorem err_put {o oE o' : Obj} {h : Heap} (N : News g L h news) (ho : (x.ed, o) ∈ news) (hE : (x.err, oE) ∈ news) (hne : oE.cls = .ref 94) (hd1 : o.cls = .type "dict") : (x.err, oE) ∈ put x.ed o' news :=
  put_ne hE fun e => by
    have := News.uniq N (e ▸ hE : (x.ed, oE) ∈ news) ho
    rw [← this, hne] at hd1
    cases hd1
theorem err_setExpr {k : Nat} {r : Row} {Q : Unit → Shared → Prop} (F : Fr g L s.heap m) (X : (hd.heap_39 w.params).In g) (N : News g L s.heap news) (h : ErrAt news x) (hk : x.exs[k]? = some r)
    (q : ∀ h' o o' tk, (x.ed, o) ∈ news → isD o → isD o' → Fr g L h' m → News g L h' (put x.ed o' news) → ErrAt (put x.ed o' news) x → Q () { s with heap := h', toks := tk }) : wpAny (model prog w) A (setAttr (.ref x.err) "expr" (.ref (x.ads.getD k 0))) Q E s := by
  obtain ⟨⟨oE, m1, hc, hd1, hn⟩, h1, h2, h3, t1, t2, t3, v1, i, t, v3, m2, h4⟩ := h
  obtain ⟨cd, hcd, ho, hh⟩ := cls94 (w := w)
  refine exc_set (es' := fun _ => [⟨h1, .str "text" t1, v1⟩, ⟨h2, .str "pos" t2, .int i t⟩, ⟨h3, .str "expr" t3, .ref (x.ads.getD k 0)⟩]) (n' := 3) F X N (N _ m1).1 hc hn hd1 m2 (by k_is) hcd ho hh (by k_is) rfl (fun tk => rfl) (fun _ => by show 3 ≤ 1000; decide) (fun h' _ F' N' tk => ?_)
  exact q h' _ (dictOf _ 3) tk m2 rfl rfl F' N' ⟨⟨oE, err_put N m2 m1 hc rfl, hc, hd1, hn⟩, h1, h2, h3, t1, t2, t3, v1, i, t, _, put_self m2, .inr ⟨k, r, hk, rfl⟩⟩
theorem err_setPos {p : Int} {tp : Tok} {Q : Unit → Shared → Prop} (F : Fr g L s.heap m) (X : (hd.heap_39 w.params).In g) (N : News g L s.heap news) (h : ErrAt news x)
    (q : ∀ h' o o' tk, (x.ed, o) ∈ news → isD o → isD o' → Fr g L h' m → News g L h' (put x.ed o' news) → ErrAt (put x.ed o' news) x → Q () { s with heap := h', toks := tk }) : wpAny (model prog w) A (setAttr (.ref x.err) "pos" (.int p tp)) Q E s := by
  obtain ⟨⟨oE, m1, hc, hd1, hn⟩, h1, h2, h3, t1, t2, t3, v1, i, t, v3, m2, h4⟩ := h
  obtain ⟨cd, hcd, ho, hh⟩ := cls94 (w := w)
  refine exc_set (es' := fun _ => [⟨h1, .str "text" t1, v1⟩, ⟨h2, .str "pos" t2, .int p tp⟩, ⟨h3, .str "expr" t3, v3⟩]) (n' := 3) F X N (N _ m1).1 hc hn hd1 m2 (by k_is) hcd ho hh (by k_is) rfl (fun tk => rfl) (fun _ => by show 3 ≤ 1000; decide) (fun h' _ F' N' tk => ?_)
  exact q h' _ (dictOf _ 3) tk m2 rfl rfl F' N' ⟨⟨oE, err_put N m2 m1 hc rfl, hc, hd1, hn⟩, h1, h2, h3, t1, t2, t3, v1, p, _, _, put_self m2, h4⟩
theorem GAt.err' {o o' : Obj} {h : Heap} (ok : x.Ok) (hG : GAt prog w x news σ) (N : News g L h news) (ho : (x.ed, o) ∈ news) (h1 : isD o) (h2 : isD o') (hE : ErrAt (put x.ed o' news) x) : GAt prog w x (put x.ed o' news) σ ∧ Keep x σ news (put x.ed o' news) := by
  have hK : Keep x σ news (put x.ed o' news) := Keep.refl.putD N (.inr (.inr (.inl rfl))) ho h1 h2
  refine ⟨⟨fun j r e => (hG.exp j r e).keep hK, fun j r e => ?_, ?_, fun a ha => ?_, fun j ic hic => ?_, hG.own, hE, hG.sep, hG.oln⟩, hK⟩
  · obtain ⟨es, c, m1, ho⟩ := hG.oid j r e
    refine ⟨es, c, put_ne m1 fun q => ok.c.2.1 ?_, ho.keep hK⟩
    have q : x.dxs.getD j 0 = x.ed := q
    have lj := idx_lt e
    rw [← ok.len.2.1] at lj
    rw [← q, List.getD_eq_getElem?_getD, List.getElem?_eq_getElem lj]
    exact List.getElem_mem lj
  · obtain ⟨o, kvs, hp, rr⟩ := hG.che
    exact ⟨o, kvs, put_ne hp ok.c.2.2.symm, rr⟩
  · obtain ⟨o, kvs, hp, rr⟩ := hG.mem a ha
    exact ⟨o, kvs, put_ne hp (hG.sep a ha).2.2, rr⟩
  · obtain ⟨⟨o, ho, hd⟩, hne⟩ := hG.old j ic hic
    obtain ⟨o', ho', hd'⟩ := hK.1 _ ho
    exact ⟨⟨o', ho', hd' hd⟩, hne⟩
variable {dflt v : Value} {t : Tok}
theorem gan_slot {C p a i : Nat} {ox od : Obj} {Q : Value → Shared → Prop} (F : Fr g L s.heap m) (X₀ : (hd.heap_39 w.params).In g) (I : InstAt s.heap a ox C (some od)) (hsub : subIn (hd.heap_39 w.params) (.ref C) (.type "module") = some false) (hg : plainGet (hd.heap_39 w.params) C "name" = true) (hc : isClsIn (hd.heap_39 w.params) C = true)
    (ha : findIn (hd.heap_39 w.params) (.ref C) "name" = some (some (.ref p))) (hn : specialIn (hd.heap_39 w.params) (.ref p) "__get__" = some (some (.builtin "member_descriptor.__get__"))) (ht : takesIn (hd.heap_39 w.params) (.ref p) = some true) (hp : slotIn (hd.heap_39 w.params) p C = some i)
    (hv : (ox.slots[i]?).join = some v) (hh : handedIn v = true) (h : Q v s) : wpAny (model prog w) A (call (.builtin "getattr") [.ref a, .str "name" t, dflt]) Q E s :=
  ga3_instname (X₀.keeps F.keep) I hsub (ga?_bind (v := v) (X₀.keeps F.keep) I (plainGet_of hg).1 (findObj_data hc ha hn ht) (plainGet_of hg).2 (wpAny_call (slot_get (X₀.keeps F.keep) I hp hv (handed_on hh h))))
theorem ex_ganame {ads : List Addr} {es : List DictEntry} {n k : Nat} {r : Row} {Q : Value → Shared → Prop} (F : Fr g L s.heap m) (X : (hd.heap_39 w.params).In g) (N : News g L s.heap news) (h : ExAt news ads es n k r)
    (q : ∀ t, Q (.str (S (nmT k)) t) s) : wpAny (model prog w) A (call (.builtin "getattr") [.ref (ads.getD k 0), .str "name" t, dflt]) Q E s := by
  obtain ⟨dx, o, m1, m2, h⟩ := h
  cases r with
  | word x =>
    obtain ⟨t1, t2, it, rfl⟩ := h
    exact gan_slot F X (inst_of N m1 m2) (by k_is) (by k_is) (by k_is) (by k_is) (by k_is) (by k_is) (by k_is) rfl rfl (q _)
  | all ks =>
    obtain ⟨t2, it, mt, rfl, _⟩ := h
    exact gan_slot F X (inst_of N m1 m2) (by k_is) (by k_is) (by k_is) (by k_is) (by k_is) (by k_is) (by k_is) rfl rfl (q _)
  | any ks =>
    obtain ⟨t2, it, mt, rfl, _⟩ := h
    exact gan_slot F X (inst_of N m1 m2) (by k_is) (by k_is) (by k_is) (by k_is) (by k_is) (by k_is) (by k_is) rfl rfl (q _)
  | neg i =>
    obtain ⟨t2, it, mt, rfl, _⟩ := h
    exact gan_slot F X (inst_of N m1 m2) (by k_is) (by k_is) (by k_is) (by k_is) (by k_is) (by k_is) (by k_is) rfl rfl (q _)
  | look i =>
    obtain ⟨t2, it, mt, rfl, _⟩ := h
    exact gan_slot F X (inst_of N m1 m2) (by k_is) (by k_is) (by k_is) (by k_is) (by k_is) (by k_is) (by k_is) rfl rfl (q _)
end
end Vy
end
section
open PyProof.V PyProof.Rows.LCg
namespace Vy
section
variable {prog : Program} {w : World} {x : Mx}
theorem core_spec (ok : x.Ok) {k : Nat} {r : Row} (hk : x.exs[k]? = some r) (IH : USpec prog w x k r) : MSpec prog w x k := by
  intro A env g L m news s R σ p tp tx G F N hdep hhan hG hF hp hret
  obtain ⟨h', gn, dr, tk0, os0⟩ := s
  refine enterN G F N (by k_is) (by k_is) (by omega) (binds := [("self", .ref (x.ads.getD k 0)), ("text", .str (S x.txt) tx), ("pos", .int (nI p) tp), ("cache", .ref x.cache), ("error", .ref x.err)]) (BindsTo.of_eq rfl) (locs rfl) (fun g' L' h' G' keep F N lt => ?_) (by decide) rfl rfl rfl
  have ⟨X, ⟨p', loose, mean, mg, mb, T⟩, _, _, _⟩ := G'
  have hE := hG.exp k _ hk
  obtain ⟨es, c, md, ho⟩ := hG.oid k _ hk
  kp_kind "s"
  refine wpAny_mono (Q := fun f s₂ => f = .next ∧ ∃ h' tk' mm n' σ' e, s₂ = ⟨h', gn, dr, tk', os0⟩ ∧ Fr g' L' h' mm ∧ News g' L' h' n' ∧ mm "self" = some (.ref (x.ads.getD k 0)) ∧ mm "text" = some (.str (S x.txt) tx) ∧ mm "pos" = some (.int (nI p) tp) ∧ mm "cache" = some (.ref x.cache) ∧ mm "error" = some (.ref x.err) ∧
      mm "expr_cache" = some (.ref (En.d e)) ∧ e ∈ σ'.C ∧ e.own = k ∧ GAt prog w x n' σ' ∧ FinLt x σ' n' (k + 1) ∧ Ext news (k + 1) σ σ' ∧ Keep x σ news n') ?_ ?_ (fun _ _ e => e)
  · repeat kp_kind "s"
    refine r_newTuple F N (by show 0 ≤ sizeLine; decide) (fun a0 h' F N la0 => ?_)
    repeat kp_kind "s"
    have sb0 : ∀ q ∈ news, q ∈ (a0, tupO []) :: news := fun q hq => .tail _ hq
    refine wpAny_mono (Q := fun v s₂ => ∃ tq ps h' tk', v = .ref tq ∧ s₂ = ⟨h', gn, dr, tk', os0⟩ ∧ Fr g' L' h' (fun y => List.lookup y (List.reverse [(("self" : Str), Value.ref (x.ads.getD k 0)), ("text", .str (S x.txt) tx), ("pos", .int (nI p) tp), ("cache", .ref x.cache), ("error", .ref x.err)])) ∧ News g' L' h' ((a0, tupO []) :: news) ∧ (tq, tupO (ps.map .ref)) ∈ (a0, tupO []) :: news ∧ All2 (fun a (ic : Nat × Addr) => ∃ t, (a, tupO [.int (nI ic.1) t, .ref ic.2]) ∈ (a0, tupO []) :: news) ps (curOf σ.C k ++ σ.olds k)) ?_ ?_ (fun _ _ e => e)
    · refine ex_oids hhan F X N ((hE.ex md).sup sb0) (ho.keep (x := x) (σ := σ) (Keep.sup sb0)) (fun hl h' tkk F N => ?_) (fun tq ps hl hm ha => ?_)
      · exact ⟨a0, [], h', tkk, rfl, rfl, F, N, .head _, by rw [hl]; exact .nil⟩
      · exact ⟨tq, ps, _, _, rfl, rfl, F, N, hm, ha⟩
    · rintro v s₂ ⟨tp2, ps, h', tkk, rfl, rfl, F, N, hmt, hps⟩
      have hG0 := hG.sup sb0
      refine r_iterTupG hhan F N hmt
        (fun I i mm n => mm "self" = some (.ref (x.ads.getD k 0)) ∧ mm "text" = some (.str (S x.txt) tx) ∧ mm "pos" = some (.int (nI p) tp) ∧ mm "cache" = some (.ref x.cache) ∧ mm "error" = some (.ref x.err) ∧
          (∀ q ∈ (a0, tupO []) :: news, q ∈ n) ∧ (i = 0 ∨ curOf σ.C k = []))
        (fun I i mm n n' hlt hO ⟨j1, j2, j3, j4, j5, j6, j8⟩ => ⟨j1, j2, j3, j4, j5, fun q hq => hO _ (j6 q hq) (.inr (by simpa using hlt q hq)), j8⟩)
        (fun I hI => ⟨rfl, rfl, rfl, rfl, rfl, fun q hq => hq, .inl rfl⟩) ?_ ?_
      · intro I i v m₁ news₁ h₁ tk₁ it hI hv ⟨j1, j2, j3, j4, j5, j6, j8⟩ hit hcit hl F N
        obtain ⟨a, hpa, rfl⟩ : ∃ a, ps[i]? = some a ∧ Value.ref a = v := by
          rw [List.getElem?_map] at hv
          cases q : ps[i]? with
          | none => rw [q] at hv; cases hv
          | some a => rw [q] at hv; exact ⟨a, rfl, Option.some.inj hv⟩
        obtain ⟨ic, hic, tt, hma⟩ := hps.get2 i a hpa
        have hma' := j6 _ hma
        refine unpackN_ F N (News.isTup N hma') hhan rfl rfl (fun h' F N => ?_)
        repeat kp_kind "s"
        have hG1 := hG0.sup j6
        refine r_dgetM N hG1.che ?_
        repeat kp_kind "s"
        refine r_dget N hG1.che (fun tkk => ?_)
        repeat kp_kind "s"
        have hcase : (∃ e, σ.C[ic.1]? = some e ∧ e.d = ic.2 ∧ e.own = k) ∨ (ic ∈ σ.olds k ∧ curOf σ.C k = []) := by
          by_cases hc : ∃ e ∈ σ.C, e.own = k
          · obtain ⟨j, e, hj, hje, hcur⟩ := cur_some (i := 0) hc
            have hcur : curOf σ.C k = [(0 + j, e.d)] := hcur
            rcases j8 with j8 | j8
            · subst j8
              rw [hcur] at hic
              simp at hic
              subst hic
              exact .inl ⟨e, hj, rfl, hje⟩
            · rw [hcur] at j8; cases j8
          · have hno : curOf σ.C k = [] := cur_none fun e he q => hc ⟨e, he, q⟩
            refine .inr ⟨?_, hno⟩
            rw [hno, List.nil_append] at hic
            exact List.mem_of_getElem? hic
        rcases hcase with ⟨e, hq, hd, ho'⟩ | ⟨hold, hno⟩
        · rw [hq]
          dsimp only [Option.map, Option.getD]
          rw [← hd]
          refine wpAny_is_ref_self ?_
          repeat kp_kind "s"
          first | with_reducible refine itT rfl ?_ | refine itT rfl ?_
          repeat kp_kind "s"
          refine wpAny_Break ?_
          exact ⟨rfl, _, _, _, _, σ, e, rfl, F, N, by kp_kind "lk", by kp_kind "lk", by kp_kind "lk", by kp_kind "lk", by kp_kind "lk", by rw [hd]; kp_kind "lk", List.mem_of_getElem? hq, ho', hG1, hF.sup fun q hq => j6 q (.tail _ hq), Ext.refl, Keep.sup fun q hq => j6 q (.tail _ hq)⟩
        · have hfin : ∀ h₁ tk₁, Fr g' L' h₁ (fun y => if y = "expr_cache" then some (.ref ic.2) else if y = "oid" then some (.int (nI ic.1) tt) else m₁ y) → News g' L' h₁ news₁ → ∃ h₂ tk₂ m₂ news₂, (⟨h₁, gn, dr, tk₁, os0⟩ : Shared) = ⟨h₂, gn, dr, tk₂, os0⟩ ∧ Fr g' L' h₂ m₂ ∧ News g' L' h₂ news₂ ∧ (I, it) ∈ news₂ ∧ (tp2, tupO (ps.map .ref)) ∈ news₂ ∧
              m₂ "self" = some (.ref (x.ads.getD k 0)) ∧ m₂ "text" = some (.str (S x.txt) tx) ∧ m₂ "pos" = some (.int (nI p) tp) ∧ m₂ "cache" = some (.ref x.cache) ∧ m₂ "error" = some (.ref x.err) ∧ (∀ q ∈ (a0, tupO []) :: news, q ∈ news₂) ∧ (i + 1 = 0 ∨ curOf σ.C k = []) := by
            intro h₁ tk₁ F N
            exact ⟨h₁, tk₁, _, _, rfl, F, N, hit, hl, by kp_kind "lk", by kp_kind "lk", by kp_kind "lk", by kp_kind "lk", by kp_kind "lk", j6, .inr hno⟩
          obtain ⟨⟨oo, hoo, hod⟩, hdif⟩ := hG1.old k ic hold
          rcases hq : σ.C[ic.1]? with _ | e
          · dsimp only [Option.map, Option.getD]
            refine wpAny_is_other rfl (by simp) ?_
            repeat kp_kind "s"
            refine itF (by decide) ?_
            repeat kp_kind "s"
            exact hfin _ _ F N
          · dsimp only [Option.map, Option.getD]
            have hm := List.mem_of_getElem? hq
            obtain ⟨od, kvs, hdm, hdd, _⟩ := hG1.mem e hm
            refine wpAny_is_ref_other (hdif e hm) (N _ hdm).1 (N _ hoo).1 (by have := isD_of hdd; unfold isD at this; rw [this]; decide) ?_
            repeat kp_kind "s"
            refine itF (by decide) ?_
            repeat kp_kind "s"
            exact hfin _ _ F N
      · intro I m₁ news₁ h₁ tk₁ hI ⟨j1, j2, j3, j4, j5, j6, j8⟩ F N
        have hno : curOf σ.C k = [] := by
          rcases j8 with j8 | j8
          · have hz : ps = [] := by cases ps with | nil => rfl | cons a l => simp at j8
            subst hz
            cases q : curOf σ.C k ++ σ.olds k with
            | nil => exact (List.append_eq_nil_iff.mp q).1
            | cons a l => rw [q] at hps; cases hps
          · exact j8
        have hG1 := hG0.sup j6
        have hCl : σ.C.length ≤ 8 := by
          have := hG.own
          have hnd := nodup_le x.exs.length (σ.C.map fun e => (e.own : Int)) (by
            have h1 := this.1
            rw [show (σ.C.map fun e => (e.own : Int)) = (σ.C.map En.own).map Int.ofNat from by rw [List.map_map]; rfl]
            exact List.Pairwise.map _ (fun a b (hab : a ≠ b) (h : Int.ofNat a = Int.ofNat b) => hab (Int.ofNat.inj h)) h1) (fun y hy => by
            obtain ⟨e, he, rfl⟩ := List.mem_map.mp hy
            have := this.2.2 e he
            omega)
          rw [List.length_map] at hnd
          have := ok.len.1
          omega
        kp_kind "s"
        refine wpAny_Assign_two (wpAny_Dict_empty ?_)
        have hbig : (h₁.objs.size == sysModules) = false := F.notModules (modules_low T.nolimit)
        have hd1 : ∀ q ∈ news₁, q.1 ≠ h₁.objs.size := fun q hq => Nat.ne_of_lt (Heap.lt_size (N q hq).1)
        have N := N.push F { cls := .type "dict", data := .dict #[] }
        have F := F.push { cls := .type "dict", data := .dict #[] }
        generalize hdd : h₁.objs.size = d at *
        repeat kp_kind "s"
        refine r_assignSub ?_
        repeat kp_kind "s"
        have hG2 := hG1.sup (n' := (d, { cls := .type "dict", data := .dict #[] }) :: news₁) fun q hq => .tail _ hq
        refine r_dlen N hG2.che (by omega) (fun tl tkk => ?_)
        repeat kp_kind "s"
        have N0 := N
        obtain ⟨oc0, kvs0, hcm, hcd, _⟩ := hG1.che
        refine r_dset (b' := σ.C.length + 1) (P' := fun l => l = σ.C.length + 1) F N hG2.che (by omega) (by omega) (by omega) (fun l hl => ?_) (fun h' oc tkk F N hoc hDc => ?_)
        · rw [List.getElem?_eq_none (Nat.le_refl _)]
          show l + 1 = σ.C.length + 1
          rw [hl]
        repeat kp_kind "s"
        refine r_dlen N hDc (by omega) (fun tl tkk => ?_)
        repeat kp_kind "s"
        first | with_reducible refine r_sub (c := nI σ.C.length) (by simp only [nI]; omega) ?_ | refine r_sub (c := nI σ.C.length) (by simp only [nI]; omega) ?_
        repeat kp_kind "s"
        refine r_newTuple F N (by show 2 ≤ sizeLine; decide) (fun a1 h' F N la1 => ?_)
        repeat kp_kind "s"
        refine r_newTuple F N (by show 1 ≤ sizeLine; decide) (fun a2 h' F N la2 => ?_)
        repeat kp_kind "s"
        refine r_newTuple F N (by show 0 ≤ sizeLine; decide) (fun a3 h' F N la3 => ?_)
        repeat kp_kind "s"
        have hdk : x.dxs.getD k 0 ∈ x.dxs := by
          have hj : k < x.dxs.length := by
            rw [ok.len.2.1]
            rcases Nat.lt_or_ge k x.exs.length with z | z
            · exact z
            · rw [List.getElem?_eq_none z] at hk; cases hk
          rw [List.getD_eq_getElem?_getD, List.getElem?_eq_getElem hj]
          exact List.getElem_mem hj
        have hne : x.dxs.getD k 0 ≠ x.cache := fun q => ok.c.1 (q ▸ hdk)
        have hcd' : x.cache ≠ d := hd1 _ hcm
        have hxd' : x.dxs.getD k 0 ≠ d := hd1 _ (j6 _ (.tail _ md))
        have hKc : Keep x σ news₁ (put x.cache oc ((d, { cls := .type "dict", data := .dict #[] }) :: news₁)) := (Keep.sup fun q hq => .tail _ hq).putD N0 (.inr (.inl rfl)) (.tail _ hcm) (isD_of hcd) hoc
        obtain ⟨n3, N3, t3, ht3, h2m, t1, h1m⟩ : ∃ n3, News g' L' h' n3 ∧ (∀ q ∈ put x.cache oc ((d, { cls := .type "dict", data := .dict #[] }) :: news₁), q ∈ n3) ∧ (a3, tupO []) ∈ n3 ∧ (a2, tupO [.ref a1]) ∈ n3 ∧ ∃ t, (a1, tupO [.int (nI σ.C.length) t, .ref d]) ∈ n3 :=
          ⟨_, N, fun q hq => .tail _ (.tail _ (.tail _ hq)), .head _, .tail _ (.head _), _, .tail _ (.tail _ (.head _))⟩
        clear N
        have N := N3
        have hK3 := hKc.on t3
        have md3 := t3 _ (put_ne (o' := oc) (.tail (d, { cls := .type "dict", data := .dict #[] }) (j6 _ (.tail _ md))) hne)
        have hE3 := (hG1.exp k r hk).keep hK3
        have ho3 := (ho.keep (Keep.sup (x := x) (σ := σ) fun q hq => j6 _ (.tail _ hq))).keep hK3
        refine wpAny_mono (Q := fun v s₂ => ∃ tq ps h' tk', v = .ref tq ∧ s₂ = ⟨h', gn, dr, tk', os0⟩ ∧ Fr g' L' h' (fun y => if y = "expr_cache" then some (.ref d) else m₁ y) ∧ News g' L' h' n3 ∧ (tq, tupO (ps.map .ref)) ∈ n3 ∧ All2 (fun a (ic : Nat × Addr) => ∃ t, (a, tupO [.int (nI ic.1) t, .ref ic.2]) ∈ n3) ps (curOf σ.C k ++ σ.olds k)) (ex_oids hhan F X N (hE3.ex md3) ho3 (fun hl h' tkk F N => ?_) (fun tq ps hl hm ha => ?_)) ?_ (fun _ _ e => e)
        · exact ⟨a3, [], h', tkk, rfl, rfl, F, N, ht3, by rw [hl]; exact .nil⟩
        · exact ⟨tq, ps, _, _, rfl, rfl, F, N, hm, ha⟩
        rintro v s₂ ⟨tq, ps, h', tkk, rfl, rfl, F, N, htq, hps⟩
        rw [hno, List.nil_append] at hps
        repeat kp_kind "s"
        refine r_addTup1 F N h2m htq (by rw [List.length_map, hps.length]; have := hG1.oln k; omega) (fun T h' n4 F N sub4 hT => ?_)
        repeat kp_kind "s"
        have hK4 := hK3.on sub4
        have N4 := N
        have hes : es = [] ∨ ∃ h t w, es = [⟨h, .str "oids" t, w⟩] := by
          rcases ho with ⟨rfl, _⟩ | ⟨h, t, tp, ps, rfl, _⟩
          · exact .inl rfl
          · exact .inr ⟨_, _, _, rfl⟩
        have hd4 := sub4 _ md3
        refine ex_setOids F X N (hE3.keep (Keep.sup (x := x) (σ := σ) sub4)) hd4 hes (fun h' hh tk5 c' F N tk6 => ?_)
        have hK5 := hK4.putD N4 (.inl hdk) hd4 rfl (o' := dictOf [⟨hh, .str "oids" tk5, .ref T⟩] c') rfl
        have hK : Keep x σ news _ := (Keep.sup (fun q hq => j6 _ (.tail _ hq))).trans hK5 (Ext.refl (k := k))
        have hGn := GAt.new ok hG1 hk hno hK5 hd1 (fun q hq h1 h2 => put_ne (sub4 _ (t3 _ (put_ne (.tail _ hq) h1))) h2)
          (by obtain ⟨o, kvs, hp, rr⟩ := hDc; exact ⟨o, kvs, put_ne (sub4 _ (t3 _ hp)) hne.symm, rr⟩)
          (dicM_empty (put_ne (sub4 _ (t3 _ (put_ne (.head _) hcd'.symm))) hxd'.symm) hbig) (put_self hd4)
          (.inr ⟨hh, tk5, T, a1 :: ps, rfl, put_tup N4 hT hd4 rfl, .cons ⟨_, put_tup N4 (sub4 _ h1m) hd4 rfl⟩ (hps.mono fun a b ⟨t, q⟩ => ⟨t, put_tup N4 (sub4 _ q) hd4 rfl⟩), by simp⟩)
        repeat kp_kind "s"
        refine ⟨rfl, h', _, _, _, _, ⟨k, d, fun _ => none⟩, rfl, F, N, by kp_kind "lk", by kp_kind "lk", by kp_kind "lk", by kp_kind "lk", by kp_kind "lk", by kp_kind "lk", by simp, rfl, hGn, ?_, ?_, hK⟩
        · intro e he ho p v hv
          rcases List.mem_append.mp he with he | he
          · have := hF e he ho p v hv
            exact ⟨this.1, this.2.keep hK⟩
          · simp at he; subst he; cases hv
        · refine ⟨rfl, fun i e he => ⟨e.f, ?_, fun _ => rfl⟩, fun i e hi he => ?_⟩
          · have hi : i < σ.C.length := by
              rcases Nat.lt_or_ge i σ.C.length with z | z
              · exact z
              · rw [List.getElem?_eq_none z] at he; cases he
            show (σ.C ++ [_])[i]? = _
            rw [List.getElem?_append_left hi]; exact he
          · have he : (σ.C ++ [(⟨k, d, fun _ => none⟩ : En)])[i]? = some e := he
            rw [List.getElem?_append_right hi] at he
            cases hz : i - σ.C.length with
            | zero =>
              rw [hz] at he
              have he := Option.some.inj he
              subst he
              exact ⟨Nat.lt_succ_self _, fun q hq => hd1 _ (j6 _ (.tail _ hq))⟩
            | succ z => rw [hz] at he; simp at he
  · rintro f s₂ ⟨rfl, h', tk', mm, n', σ', e, rfl, F, N, j1, j2, j3, j4, j5, j6, he, heo, hG', hF', hext, hkp⟩
    kp_kind "s"
    refine wpAny_mono (Q := fun f s₂ => f = .next ∧ ∃ h' tk' mm n' σ' v, s₂ = ⟨h', gn, dr, tk', os0⟩ ∧ Fr g' L' h' mm ∧ News g' L' h' n' ∧ mm "self" = some (.ref (x.ads.getD k 0)) ∧ mm "text" = some (.str (S x.txt) tx) ∧ mm "pos" = some (.int (nI p) tp) ∧ mm "cache" = some (.ref x.cache) ∧ mm "error" = some (.ref x.err) ∧
      mm "node" = some v ∧ ValOk n' (rs x.txt x.exs k p) p v ∧ GAt prog w x n' σ' ∧ FinLt x σ' n' (k + 1) ∧ Ext news (k + 1) σ σ' ∧ Keep x σ news n') ?_ ?_ (fun _ _ e => e)
    · repeat kp_kind "s"
      have hFe := hF' e he (by omega)
      have hM := hG'.mem e he
      refine r_din N hM (fun tkk => ?_)
      repeat kp_kind "s"
      cases hfp : e.f p with
      | some v =>
        first | with_reducible refine itT (by simp) ?_ | refine itT (by simp) ?_
        repeat kp_kind "s"
        refine r_ditem N hM hfp (fun tkk => ?_)
        repeat kp_kind "s"
        have hvv := hFe p v hfp
        rw [heo] at hvv
        exact ⟨rfl, h', _, _, n', σ', v, rfl, F, N, by kp_kind "lk", by kp_kind "lk", by kp_kind "lk", by kp_kind "lk", by kp_kind "lk", by kp_kind "lk", hvv.2, hG', hF', hext, hkp⟩
      | none =>
        refine itF (by simp) ?_
        repeat kp_kind "s"
        obtain ⟨i, hi⟩ := List.getElem?_of_mem he
        obtain ⟨oM, kvs, hdm, hdd, _⟩ := hG'.mem e he
        have N0 := N
        refine r_dset (b' := x.txt.length + 1) (P' := fun _ => True) F N hM (Nat.le_refl _) (by omega) (by have := ok.len.2.2; omega) (fun _ _ => trivial) (fun h' o1 tk1 F N ho1 hD1 => ?_)
        repeat kp_kind "s"
        refine wpAny_Assign_two ?_
        have hK1 := keep_store (x := x) (σ := σ') N0 he hdm (isD_of hdd) ho1
        have hG1 := GAt.store ok hG' hi hK1 (fun q hq h => put_ne hq h) hD1
        have hext1 : Ext n' (k + 1) σ' _ := Ext.store (f' := fun q => if q = p then some (.ref 220) else e.f q) hi (by omega)
        have hF1 := (hF'.mono (Nat.le_succ k)).store (f' := fun q => if q = p then some (.ref 220) else e.f q) hG'.own.1 hi hK1 (fun z => absurd z (by omega))
        have hi1 : (σ'.C.set i ⟨e.own, e.d, fun q => if q = p then some (.ref 220) else e.f q⟩)[i]? = some ⟨e.own, e.d, fun q => if q = p then some (.ref 220) else e.f q⟩ := by
          rw [List.getElem?_set, if_pos rfl, if_pos (idx_lt hi)]
        obtain ⟨es1, c1, md1, ho1⟩ := hG1.oid k r hk
        repeat kp_kind "s"
        refine ex_unc F X N ((hG1.exp k r hk).ex md1) (getL_oids ho1 (by decide)) ?_
        repeat kp_kind "s"
        first | with_reducible refine callWith_K X unc_keep ?_ | refine callWith_K X unc_keep ?_
        repeat kp_kind "s"
        refine IH G' F N (by rw [depth_deeper]; omega) hhan hG1 hF1 hp (fun v h' tk2 n2 σ2 F N hG2 hF2 hext2 hkp2 hv2 => ?_)
        repeat kp_kind "s"
        refine r_assignSub ?_
        repeat kp_kind "s"
        obtain ⟨f2, hi2, hf2⟩ := hext2.2.1 i _ hi1
        have hf2 := hf2 (by show k ≤ e.own; omega)
        subst hf2
        have hM2 := hG2.mem _ (List.mem_of_getElem? hi2)
        obtain ⟨oM2, kvs2, hdm2, hdd2, _⟩ := hG2.mem _ (List.mem_of_getElem? hi2)
        have N02 := N
        refine r_dset (b' := x.txt.length + 1) (P' := fun _ => True) F N hM2 (Nat.le_refl _) (by omega) (by have := ok.len.2.2; omega) (fun _ _ => trivial) (fun h' o3 tk3 F N ho3 hD3 => ?_)
        repeat kp_kind "s"
        have hK3 := keep_store (x := x) (σ := σ2) N02 (List.mem_of_getElem? hi2) hdm2 (isD_of hdd2) ho3
        have hG3 := GAt.store ok hG2 hi2 hK3 (fun q hq h => put_ne hq h) hD3
        have hv3 : ValOk n2 (rs x.txt x.exs k p) p v := by rw [rs_row ok.wf hk]; exact hv2
        have hKt : Keep x σ' n' _ := hK1.trans (hkp2.trans hK3 hext2) hext1
        refine ⟨rfl, h', _, _, _, _, v, rfl, F, N, by kp_kind "lk", by kp_kind "lk", by kp_kind "lk", by kp_kind "lk", by kp_kind "lk", by kp_kind "lk", hv3.keep hK3, hG3, fun a ha ho q vv hv => ?_,
          hext.trans (hext1.trans ((hext2.mono (Nat.le_succ k)).trans (Ext.store (n := n2) hi2 (by show e.own < k + 1; omega)) hkp2) hK1) hkp, hkp.trans hKt hext⟩
        rcases mem_set hG2.own.1 hi2 ha with rfl | ⟨h1, h2⟩
        · dsimp only at hv ho ⊢
          rw [heo]
          by_cases hqp : q = p
          · subst hqp
            rw [if_pos rfl] at hv
            cases hv
            exact ⟨hp, hv3.keep hK3⟩
          · rw [if_neg hqp, if_neg hqp] at hv
            have := hFe q vv hv
            rw [heo] at this
            exact ⟨this.1, this.2.keep hKt⟩
        · have h2 : a.own ≠ e.own := h2
          have := hF2 a h1 (by omega) q vv hv
          exact ⟨this.1, this.2.keep hK3⟩
    · rintro f s₂ ⟨rfl, h', tk', mm, n', σ', v, rfl, F, N, j1, j2, j3, j4, j5, j6, hv, hG', hF', hext, hkp⟩
      repeat kp_kind "s"
      refine r_isProg F X N hv ?_
      repeat kp_kind "s"
      refine itF (by decide) ?_
      repeat kp_kind "s"
      have hE := hG'.err
      obtain ⟨es1, c1, md1, ho1⟩ := hG'.oid k r hk
      have hX := (hG'.exp k r hk).ex md1
      have ret : ∀ h' tk n'', Fr g' L' h' mm → News g' L' h' n'' → GAt prog w x n'' σ' → Keep x σ' n' n'' → LeaveK g L m g' R v ⟨h', gn, dr, tk, os0⟩ := fun h' tk n'' F N hG'' hK => by
        kp_kind "k"
        exact hret v _ _ _ _ F N hG'' (fun e he ho q vv hv => ⟨(hF' e he ho q vv hv).1, (hF' e he ho q vv hv).2.keep hK⟩) hext (hkp.trans hK hext) (hv.keep hK)
      refine wpAny_mono (Q := fun (b : Bool) s₂ => ∃ h' tk', s₂ = ⟨h', gn, dr, tk', os0⟩ ∧ Fr g' L' h' mm ∧ News g' L' h' n') ?_ ?_ (fun _ _ e => e)
      · have fin : ∀ (b : Bool) h' tk', Fr g' L' h' mm → News g' L' h' n' → ∃ h₁ tk₁, (⟨h', gn, dr, tk', os0⟩ : Shared) = ⟨h₁, gn, dr, tk₁, os0⟩ ∧ Fr g' L' h₁ mm ∧ News g' L' h₁ n' := fun _ h' tk' F N => ⟨h', tk', rfl, F, N⟩
        first | with_reducible refine isTrue_and ?_ | refine isTrue_and ?_
        repeat kp_kind "s"
        cases hq : rs x.txt x.exs k p with
        | some q =>
          rw [hq] at hv
          obtain ⟨a, dx, ch, fe, ft, t1, t2, rfl, _⟩ := (show NodeAt n' v p q from hv)
          refine wpAny_is_other rfl (by simp) ?_
          repeat kp_kind "s"
          refine itF (by decide) ?_
          exact fin false _ _ F N
        | none =>
          rw [hq] at hv
          have hv : v = .none := hv
          subst hv
          refine wpAny_is_self rfl ?_
          repeat kp_kind "s"
          first | with_reducible refine itT (by decide) ?_ | refine itT (by decide) ?_
          first | with_reducible refine isTrue_and ?_ | refine isTrue_and ?_
          repeat kp_kind "s"
          refine err_pos F X N hE (fun i t tk => ?_)
          repeat kp_kind "s"
          first | with_reducible refine PyProof.Rows.ge_int ?_ | refine PyProof.Rows.ge_int ?_
          repeat kp_kind "s"
          by_cases hge : i ≤ nI p
          · first | with_reducible refine itT (decide_eq_true hge) ?_ | refine itT (decide_eq_true hge) ?_
            first | with_reducible refine isTrue_and ?_ | refine isTrue_and ?_
            first | with_reducible refine isTrue_or ?_ | refine isTrue_or ?_
            first | with_reducible refine isTrue_plain ?_ | refine isTrue_plain ?_
            repeat kp_kind "s"
            refine ex_name F X N hX (fun t tk => ?_)
            first | with_reducible refine r_truthyS (by unfold nmT; split <;> simp) (fun tkk => ?_) | refine r_truthyS (by unfold nmT; split <;> simp) (fun tkk => ?_)
            by_cases hnm : k % 2 = 1
            · first | with_reducible refine itT (by simp [nmT, hnm]) ?_ | refine itT (by simp [nmT, hnm]) ?_
              first | with_reducible refine itT rfl ?_ | refine itT rfl ?_
              refine isTrue_and_nil ?_
              exact fin true _ _ F N
            · refine itF (by simp [nmT, hnm]) ?_
              first | with_reducible refine isTrue_or ?_ | refine isTrue_or ?_
              repeat kp_kind "s"
              refine err_expr F X N hE (fun tk => ?_) (fun j r2 hj tk => ?_)
              · repeat kp_kind "s"
                refine ga3_none hhan F N (fun h' tk F N => ?_)
                repeat kp_kind "s"
                refine wpAny_is_self rfl ?_
                repeat kp_kind "s"
                first | with_reducible refine itT rfl ?_ | refine itT rfl ?_
                first | with_reducible refine itT rfl ?_ | refine itT rfl ?_
                refine isTrue_and_nil ?_
                exact fin true _ _ F N
              · repeat kp_kind "s"
                obtain ⟨es2, c2, md2, ho2⟩ := hG'.oid j r2 hj
                refine ex_ganame F X N ((hG'.exp j r2 hj).ex md2) (fun t => ?_)
                repeat kp_kind "s"
                refine wpAny_is_other rfl (by simp) ?_
                repeat kp_kind "s"
                refine itF (by decide) ?_
                refine isTrue_or_nil ?_
                refine itF (by decide) ?_
                exact fin false _ _ F N
          · refine itF (fun q => hge (of_decide_eq_true q)) ?_
            exact fin false _ _ F N
      · rintro b s₂ ⟨h', tk', rfl, F, N⟩
        cases b with
        | false =>
          refine itF (by decide) ?_
          repeat kp_kind "s"
          refine ret _ _ _ F N hG' Keep.refl
        | true =>
          first | with_reducible refine itT rfl ?_ | refine itT rfl ?_
          repeat kp_kind "s"
          refine err_setExpr F X N hE hk (fun h' o o' tk hm h1 h2 F N' hE' => ?_)
          obtain ⟨hG2, hK2⟩ := GAt.err' ok hG' N hm h1 h2 hE'
          clear N
          have N := N'
          repeat kp_kind "s"
          refine err_setPos F X N hE' (fun h' o o' tk hm h1 h2 F N' hE' => ?_)
          obtain ⟨hG3, hK3⟩ := GAt.err' ok hG2 N hm h1 h2 hE'
          clear N
          have N := N'
          repeat kp_kind "s"
          refine ret _ _ _ F N hG3 (hK2.trans hK3 (Ext.refl (k := k)))
end
end Vy
end
section
open PyProof.V PyProof.Rows.LCg
namespace Vy
section
variable {prog : Program} {w : World} {x : Mx}
theorem mspec_all (ok : x.Ok) : ∀ (k : Nat) (r : Row), x.exs[k]? = some r → MSpec prog w x k := by
  intro k
  induction k using Nat.strongRecOn with
  | _ k ih =>
    intro r hk
    have kid : ∀ i ∈ r.kids, MSpec prog w x i := fun i hi => by
      have hlt := ok.wf k r hk i hi
      have hl : i < x.exs.length := Nat.lt_trans hlt (idx_lt hk)
      exact @ih i hlt _ (List.getElem?_eq_getElem hl)
    refine @core_spec prog w x ok k r hk ?_
    cases r with
    | word y => exact @unc_word prog w x ok k y hk
    | all ks => exact @unc_all prog w x ok k ks hk kid
    | any ks => exact @unc_any prog w x ok k ks hk kid
    | neg i => exact @unc_neg prog w x ok k i hk (kid i (.head _))
    | look i => exact @unc_look prog w x ok k i hk (kid i (.head _))
end
end Vy
end
section
open PyProof.V PyProof.Rows.LCg PySem.Builtin
namespace Vy
theorem cls94x (w : World) : ∃ nm q N bs bm hdct sn sub ab col dd k0 k1 k2 k3 k5, (hd.heap_39 w.params).lookup 94 = some (excClassObj nm q 94 N bs bm hdct sn sub ab col dd k0 k1 k2 k3 k5 "Exception.__new__") ∧
    bm.contains (.type "Exception") = true ∧ bm.contains (.type "AttributeError") = false ∧ bm.contains (.type "NameError") = false ∧ bm.contains (.type "BaseException") = true :=
  ⟨_, _, _, _, _, _, _, _, _, _, _, _, _, _, _, _, by k_is, by decide +kernel, by decide +kernel, by decide +kernel, by decide +kernel⟩
section
variable {prog : Program} {w : World} {A : Around} {R : Result → Shared → Prop} {h : Heap} {g : Array GenState} {d : Drawn} {t : Nat} {os : OsState}
variable {nm q : Str} {C N : Addr} {bs bm : List Value} {hdct : Bool} {sn : List Str} {sub : List Value} {ab : Bool} {col : Option Bool} {dd : Option Addr} {k0 k1 k2 k3 k5 : Option Value} {Bn newId inN : String} {bmN : List Value}
theorem newE_check {M : Model} {E : Value → Shared → Prop} (Fn : ExcBaseFacts Bn newId inN bmN) (hBn : bm.contains (.type Bn) = true) {rest : List Value} {Q : Unit → Shared → Prop} (hC : h.get? C = some (excClassObj nm q C N bs bm hdct sn sub ab col dd k0 k1 k2 k3 k5 newId))
    (hq : Q () ⟨h, g, d, t, os⟩) : wpAny M A (checkBuiltinCall newId ⟨.ref C :: rest, []⟩) Q E ⟨h, g, d, t, os⟩ := by
  have hcont : (Value.ref C :: bm).contains (.type Bn) = true := by rw [List.contains_cons, hBn, Bool.or_true]
  have hstar := Fn.noStar
  simp only [checkBuiltinCall, Fn.newKind, Fn.newSplit, Fn.newRow]
  repeat (first | refine wpAny_loadPart_at hC ?_ | (refine wpAny_isSubtype_exc hC ?_; rw [hcont]) | refine wpAny_staticBase_exc hC ?_ | refine wpAny_madeBy_exc hC ?_ | simp only [bne_self_eq_false, Bool.false_eq_true, if_false] | wp_step)
  exact hq
theorem newE (Fn : ExcBaseFacts Bn newId inN bmN) (hBn : bm.contains (.type Bn) = true) (hA : bm.contains (.type "AttributeError") = false) (hN : bm.contains (.type "NameError") = false) (hBB : bm.contains (.type "BaseException") = true) {rest : List Value}
    (hC : h.get? C = some (excClassObj nm q C N bs bm hdct sn sub ab col dd k0 k1 k2 k3 k5 newId))
    (hq : R (.ok (.ret (.ref (h.objs.size + 1)))) ⟨(h.push { cls := .type "tuple", data := .seq rest.toArray }).push
      { cls := .ref C, data := .fields #[.ref h.objs.size, .none, .none, .none, .bool false, .none] }, g, d, t, os⟩) (hrest : rest.length ≤ sizeLine) :
    codeAny (model prog w) A (.builtin newId ⟨.ref C :: rest, []⟩) R ⟨h, g, d, t, os⟩ := by
  have hends := Fn.ends
  have hcB : (Value.ref C :: bm).contains (.type Bn) = true := by rw [List.contains_cons, hBn, Bool.or_true]
  have hcBB : (Value.ref C :: bm).contains (.type "BaseException") = true := by rw [List.contains_cons, hBB, Bool.or_true]
  have hcA : (Value.ref C :: bm).contains (.type "AttributeError") = false := by rw [List.contains_cons, hA]; rfl
  have hcN : (Value.ref C :: bm).contains (.type "NameError") = false := by rw [List.contains_cons, hN]; rfl
  refine codeAny_builtinAt Fn.entry ?_
  unfold Builtin.«BaseException.__new__»
  refine PySem.wpAt_bind ?_
  show PySem.wpAt _ _ _ (stack >>= _) _ _ _
  refine PySem.wpAt_bind (PySem.wpAt_stack fun p below => PySem.wpAt_of_wpAny ?_)
  wp_walk
  refine PySem.wpAt_of_wpAny ?_
  rw [Fn.owner]
  repeat (first | with_reducible refine wpAny_madeHere_exc Fn.canon hC ?_ | with_reducible refine wpAny_loadPart_at hC ?_ | (with_reducible refine wpAny_isSubtype_exc hC ?_; first | rw [hcB] | rw [hcBB] | rw [hcA] | rw [hcN]) | wp_step)
  show R _ _
  rw [Heap.size_push]
  exact hq
theorem callE {K : Frag} {rest : List Value} {fI : Addr} (Fn : ExcBaseFacts Bn newId inN bmN) (hBn : bm.contains (.type Bn) = true) (hA : bm.contains (.type "AttributeError") = false) (hN : bm.contains (.type "NameError") = false) (hBB : bm.contains (.type "BaseException") = true)
    (hC : h.get? C = some (excClassObj nm q C N bs bm hdct sn sub ab col dd k0 k1 k2 k3 k5 newId)) (X : K.In h) (hi : findIn K (.ref C) "__init__" = some (some (.ref fI))) (hf : typeIn K (.ref fI) = some (.type "function")) (hrest : rest.length ≤ sizeLine)
    (hq : wpAny (model prog w) (A.under (.builtin "type.__call__" ⟨.ref C :: rest, []⟩)) (call (.ref fI) (.ref (h.objs.size + 1) :: rest)) (fun r s' => r = .none ∧ R (.ok (.ret (.ref (h.objs.size + 1)))) s') (fun e s' => R (.error e) s') ⟨(h.push { cls := .type "tuple", data := .seq rest.toArray }).push
      { cls := .ref C, data := .fields #[.ref h.objs.size, .none, .none, .none, .bool false, .none] }, g, d, t, os⟩) :
    codeAny (model prog w) A (.call (.ref C) ⟨rest, []⟩) R ⟨h, g, d, t, os⟩ := by
  have f1 := tc_lookup
  have f2 := tc_bind (.ref C)
  have hT : (⟨h, g, d, t, os⟩ : Shared).TypeIs (.ref C) "type" := ⟨_, hC, rfl⟩
  refine codeAny_of_tree ?_
  show wpAny _ _ (callAny (.ref C) _) _ _ _
  repeat (any_goals (first | assumption | with_reducible refine wpAny_loadPart_at hC ?_ | wp_step))
  refine ⟨rfl, ?_⟩
  refine codeAny_call_builtin_at (Code.quiet_builtin _ (by decide +kernel)) entry_typeCall (wpAny_check_type_call_sub hC ?_)
  repeat (first | with_reducible refine wpAny_loadPart_at hC ?_ | with_reducible refine wpAny_madeBy_exc hC ?_ | wp_step)
  refine codeAny_call_builtin_code (Code.quiet_builtin _ Fn.quiet) (newE_check Fn hBn hC ?_)
  refine newE Fn hBn hA hN hBB hC ?_ hrest
  show wpAny _ _ _ _ _ _
  have kp : ∀ b o, h.get? b = some o → ((h.push { cls := .type "tuple", data := .seq rest.toArray }).push { cls := .ref C, data := .fields #[.ref h.objs.size, .none, .none, .none, .bool false, .none] }).get? b = some o := fun b o e => Heap.get?_push_of_some _ (Heap.get?_push_of_some _ e)
  have hC₁ := kp _ _ hC
  have X₁ := X.keeps kp
  have hget : ((h.push { cls := .type "tuple", data := .seq rest.toArray }).push
      { cls := .ref C, data := .fields #[.ref h.objs.size, .none, .none, .none, .bool false, .none] }).get? (h.objs.size + 1) = some
      { cls := .ref C, data := .fields #[.ref h.objs.size, .none, .none, .none, .bool false, .none] } := by heap_get
  have hcC : (Value.ref C :: bm).contains (.ref C) = true := by simp
  unfold isInstance
  repeat (first | with_reducible refine wpAny_loadPart_at hget ?_ | (refine wpAny_isSubtype_exc hC₁ ?_; rw [hcC]) | wp_step)
  show wpAny _ _ (typeLookup (.ref C) _) _ _ _
  refine (looks_findIn X₁ hi).here (s := ⟨_, g, d, t, os⟩) ?_
  dsimp only
  refine wpAny_holding (wpAny_bind ((bind_fn X₁ _ hf).here (s := ⟨_, g, d, t, os⟩) ?_))
  refine wpAny_bind (wpAny_mono hq (fun r s' hr => ?_) fun _ _ x => x)
  obtain ⟨rfl, hQ⟩ := hr
  wp_walk
  exact hQ
end
open PySem.Builtin.ObjectAttr
section
variable {prog : Program} {w : World} {A : Around} {E : Value → Shared → Prop} {s : Shared} {K : Frag} {x C L : Addr} {h₀ : Heap} {m : Str → Option Value} {news : List (Addr × Obj)} {name : Str} {v : Value} {cd : ClassData}
theorem exc_set0 {Q : Unit → Shared → Prop} {vs : Array Value} (F : Fr h₀ L s.heap m) (X₀ : K.In h₀) (N : News h₀ L s.heap news) (hm : (x, ⟨.ref C, none, .fields vs, #[]⟩) ∈ news)
    (hs : findIn K (.ref C) "__setattr__" = some (some (.builtin "object.__setattr__"))) (hc : clsIn K C = some cd) (ho : excOnly cd.mro = true) (hh : cd.hasDict = true) (ht : takerIn K C name = some none)
    (h : ∀ h' dx hk tk0, Fr h₀ L h' m → News h₀ L h' ((dx, dictOf [⟨hk, .str name tk0, v⟩] 1) :: put x ⟨.ref C, some dx, .fields vs, #[]⟩ news) → (∀ p ∈ news, p.1 ≠ dx) → ∀ tk, Q () { s with heap := h', toks := tk }) :
    wpAny (model prog w) A (setAttr (.ref x) name v) Q E s := by
  have X := X₀.keeps F.keep
  obtain ⟨hp, gg, dd, tk, os⟩ := s
  dsimp only at X F N h
  have hx := (N _ hm).1
  have I : InstAt hp x ⟨.ref C, none, .fields vs, #[]⟩ C none := ⟨hx, rfl, rfl, trivial⟩
  refine set_plain X I hs (osa_openE (s := ⟨hp, gg, dd, tk + 1, os⟩) X I hc ho ht fun b => ?_)
  refine wpAny_bind (wpAny_pure (wpAny_bind (wpAny_bind (wpAny_loadPart hx (wpAny_bind ((looks_clsIn X hc).here (s := ⟨hp, gg, dd, tk + 1, os⟩) ?_))))))
  rw [hh]
  have hd1 : ∀ q ∈ news, q.1 ≠ hp.objs.size := fun q hq => Nat.ne_of_lt (Heap.lt_size (N q hq).1)
  have N1 := N.push F { cls := .type "dict", data := .dict #[] }
  have F1 := F.push { cls := .type "dict", data := .dict #[] }
  have hx1 := (N1 _ (.tail _ hm)).1
  have hxd : x ≠ hp.objs.size := hd1 _ hm
  obtain ⟨F2, N2⟩ := news_upd (pre := []) (f := fun o => { o with dict := some hp.objs.size }) F1 (split_at N1 (.tail _ hm)) (fun _ q => nomatch q) (fun p hp => by simpa using (List.mem_filter.mp hp).2) rfl rfl
  have N2 := put_at N2
  have hm2 : (hp.objs.size, dictOf [] 0) ∈ put x ⟨.ref C, some hp.objs.size, .fields vs, #[]⟩ ((hp.objs.size, { cls := .type "dict", data := .dict #[] }) :: news) := put_ne (.head _) hxd.symm
  have D := (N2 _ hm2).1
  obtain ⟨F3, N3⟩ := news_upd (pre := []) (f := Obj.putName name (PyData.keyHash w.params name) (.str name (tk + 1)) v) (o' := dictOf [⟨PyData.keyHash w.params name, .str name (tk + 1), v⟩] 1) F2 (split_at N2 hm2) (fun _ q => nomatch q) (fun p hp => by simpa using (List.mem_filter.mp hp).2) (by rw [putName_dict]; rfl) rfl
  have D' := (N3 _ (List.mem_cons_self)).1
  have N3 := put_at N3
  have N4 : News h₀ L _ ((hp.objs.size, dictOf [⟨PyData.keyHash w.params name, .str name (tk + 1), v⟩] 1) :: put x ⟨.ref C, some hp.objs.size, .fields vs, #[]⟩ news) := fun p hp => by
    rcases List.mem_cons.mp hp with rfl | hp
    · exact N3 _ (put_self hm2)
    · refine N3 _ (put_ne ?_ ?_)
      · rcases put_cases hp with rfl | ⟨hp, hn⟩
        · exact put_self (.tail _ hm)
        · exact put_ne (.tail _ hp) hn
      · rcases put_cases hp with rfl | ⟨hp, hn⟩
        · exact hxd
        · exact hd1 _ hp
  refine wpAny_bind (wpAny_alloc (wpAny_bind (wpAny_update' hx1 (wpAny_pure ?_))))
  dsimp only
  refine wpAny_bind (wpAny_pure (wpAny_bind ?_))
  unfold nsSet
  refine wpAny_bind (wpAny_bind (wpAny_askSetting (wpAny_pure (wpAny_bind (wpAny_mkText (wpAny_bind (wpAny_loadPart D ?_)))))))
  dsimp only [dictOf]
  have c : (!([] : List DictEntry).toArray.any (·.key.isStr name) && ([] : List DictEntry).toArray.any (·.refKey)) = false := by simp
  rw [aRefKeyMayBeTheName_at, c]
  refine wpAny_updatePart D ?_
  refine wpAny_bind (wpAny_lookBehind D' (pastItsLine_dict (by rw [List.size_toArray, sizeLine_eq]; show 1 ≤ 16777216 + 1; omega)) ?_)
  exact wpAny_pure (h _ _ _ _ F3 N4 hd1 _)
end
end Vy
end
section
open PyProof.V PyProof.Rows.LCg PySem.Builtin
namespace Vy
section
variable {prog : Program} {w : World} {A : Around} {env : Env} {s : Shared} {g : Heap} {L : Addr} {m : Str → Option Value} {news : List (Addr × Obj)} {R : Result → Shared → Prop}
def excO (C ed T : Addr) : Obj := ⟨.ref C, some ed, .fields #[.ref T, .none, .none, .none, .bool false, .none], #[]⟩
theorem perr_make {txt : List Nat} {tx : Tok} (G : Gd w A env g L) (F : Fr g L s.heap m) (N : News g L s.heap news) (hdep : A.depth + 2 < recursionLimit)
    (h : ∀ e ed T h1 h2 h3 t1 t2 t3 t4 h' tk n', Fr g L h' m → News g L h' n' → (∀ p ∈ news, p ∈ n') → (∀ p ∈ news, p.1 ≠ e ∧ p.1 ≠ ed) → e ≠ ed → (e, excO 94 ed T) ∈ n' →
      (ed, dictOf [⟨h1, .str "text" t1, .str (S txt) tx⟩, ⟨h2, .str "pos" t2, .int (-1) t4⟩, ⟨h3, .str "expr" t3, .none⟩] 3) ∈ n' → R (.ok (.ret (.ref e))) { s with heap := h', toks := tk }) :
    codeAny (model prog w) A (.call (.ref 94) ⟨[.str (S txt) tx], []⟩) R s := by
  obtain ⟨h', gn, dr, tk0, os0⟩ := s
  have X := G.X.keeps F.keep
  obtain ⟨nm, q, N0, bs, bm, hdct, sn, sub, ab, col, dd, k0, k1, k2, k3, k5, hC, hE, hA, hNm, hBB⟩ := cls94x w
  obtain ⟨cd, hcd, ho, hh⟩ := cls94 (w := w)
  refine callE PySem.F.excBase_Exception hE hA hNm hBB (X 94 _ hC) X (fI := 70) (by k_is) (by k_is) (by show 1 ≤ sizeLine; decide) ?_
  have hlt : ∀ p ∈ news, p.1 ≠ h'.objs.size ∧ p.1 ≠ h'.objs.size + 1 := fun p hp => by
    have := Heap.lt_size (N p hp).1
    exact ⟨Nat.ne_of_lt this, Nat.ne_of_lt (Nat.lt_succ_of_lt this)⟩
  have N1 := (N.push F ({ cls := .type "tuple", data := .seq [Value.str (S txt) tx].toArray } : Obj)).push (F.push _) { cls := .ref 94, data := .fields #[.ref h'.objs.size, .none, .none, .none, .bool false, .none] }
  rw [Heap.size_push] at N1
  have F1 := (F.push ({ cls := .type "tuple", data := .seq [Value.str (S txt) tx].toArray } : Obj)).push { cls := .ref 94, data := .fields #[.ref h'.objs.size, .none, .none, .none, .bool false, .none] }
  have hTe : h'.objs.size ≠ h'.objs.size + 1 := by omega
  generalize h'.objs.size + 1 = e at *
  generalize h'.objs.size = T at *
  refine wpAny_call ?_
  have G1 := G.under "type.__call__" ⟨.ref 94 :: [.str (S txt) tx], []⟩
  refine enterN G1 F1 N1 (by k_is) (by k_is) (by show A.depth + 1 < _; omega) (binds := [("self", .ref e), ("text", .str (S txt) tx), ("pos", .int (-1) _), ("expr", .none)]) (kp_binds (K := hd.heap_39 w.params) (G.X.keeps F1.keep) (fun _ => rfl)) (locs rfl) (fun g' L' h' G' keep F N lt => ?_) (by decide) rfl rfl rfl
  have ⟨X, ⟨p, loose, mean, mg, mb, T'⟩, _, _, _⟩ := G'
  repeat kp_kind "s"
  refine exc_set0 F X N (.head _) (by k_is) hcd ho hh (by k_is) (fun h' ed hk tk0' F N hned tk => ?_)
  repeat kp_kind "s"
  have he1 : ∀ p ∈ put e ⟨.ref 94, some ed, .fields #[.ref T, .none, .none, .none, .bool false, .none], #[]⟩ ((e, ({ cls := .ref 94, data := .fields #[.ref T, .none, .none, .none, .bool false, .none] } : Obj)) :: (T, { cls := .type "tuple", data := .seq [Value.str (S txt) tx].toArray }) :: news), p.1 ≠ ed := fun p hp => by
    rcases put_cases hp with rfl | ⟨hp, _⟩
    · exact hned (e, ({ cls := .ref 94, data := .fields #[.ref T, .none, .none, .none, .bool false, .none] } : Obj)) (.head _)
    · exact hned _ hp
  have hee : e ≠ ed := hned _ (.head _)
  refine exc_set (C := 94) (dx := ed) (ox := excO 94 ed T) (es' := fun tk => [⟨hk, .str "text" tk0', .str (S txt) tx⟩, ⟨PyData.keyHash w.params "pos", .str "pos" tk, .int (-1) _⟩]) (n' := 2) F X N (N _ (.tail _ (put_self (.head _)))).1 rfl rfl rfl (.head _) (by k_is) hcd ho hh (by k_is) rfl (fun tk => rfl) (fun _ => by show 2 ≤ 1000; decide) (fun h' tk1 F N tk => ?_)
  repeat kp_kind "s"
  refine exc_set (C := 94) (dx := ed) (ox := excO 94 ed T) (es' := fun tk => [⟨hk, .str "text" tk0', .str (S txt) tx⟩, ⟨PyData.keyHash w.params "pos", .str "pos" tk1, .int (-1) _⟩, ⟨PyData.keyHash w.params "expr", .str "expr" tk, .none⟩]) (n' := 3) F X N (N _ (put_ne (.tail _ (put_self (.head _))) hee)).1 rfl rfl rfl (put_self (.head _)) (by k_is) hcd ho hh (by k_is) rfl (fun tk => rfl) (fun _ => by show 3 ≤ 1000; decide) (fun h' tk2 F N tk => ?_)
  repeat kp_kind "s"
  kp_kind "k"
  refine ⟨rfl, h e ed T _ _ _ _ _ _ _ _ _ _ F N (fun p hp => ?_) (fun p hp => ⟨(hlt p hp).2, hned _ (.tail _ (.tail _ hp))⟩) hee (put_ne (put_ne (.tail _ (put_self (.head _))) hee) hee) (put_self (put_self (.head _)))⟩
  have h1 := (hlt p hp).2
  have h2 := hned _ (.tail _ (.tail _ hp))
  exact put_ne (put_ne (.tail _ (put_ne (.tail _ (.tail _ hp)) h1)) h2) h2
end
end Vy
end
section
open PyProof.V PyProof.Rows.LCg PySem.Builtin
namespace Vy
section
variable {M : Model} {A : Around} {E : Value → Shared → Prop} {s : Shared} {env : Env}
variable {nm q : Str} {C N : Addr} {bs bm : List Value} {hdct : Bool} {sn : List Str} {sub : List Value} {ab : Bool} {col : Option Bool} {dd : Option Addr} {k0 k1 k2 k3 k5 : Option Value} {newId : String}
theorem raise_stmt {x : Sem Value} {Q : Flow → Shared → Prop} (hbase : bm.contains (.type "BaseException") = true) (hh : A.handled = none)
    (h : wpAny M A x (fun v s₁ => ∃ e ed t, v = .ref e ∧ s₁.heap.get? C = some (excClassObj nm q C N bs bm hdct sn sub ab col dd k0 k1 k2 k3 k5 newId) ∧
      s₁.heap.get? e = some (excO C ed t) ∧ E (.ref e) s₁) E s) :
    wpAny M A (raiseStmt env (some x) none) Q E s := by
  have hcB : (Value.ref C :: bm).contains (.type "BaseException") = true := by rw [List.contains_cons, hbase, Bool.or_true]
  unfold raiseStmt
  refine wpAny_bind (wpAny_mono h (fun v s₁ h₁ => ?_) fun _ _ x => x)
  obtain ⟨e, ed, t, rfl, hC, he, hE⟩ := h₁
  obtain ⟨hp, g, d, tk, os⟩ := s₁
  unfold excO at he
  repeat (first | with_reducible refine wpAny_loadPart_at he ?_ | with_reducible refine wpAny_loadPart_at hC ?_ | (with_reducible refine wpAny_isSubtype_exc hC ?_; rw [hcB]) | wp_step)
  exact wpAny_raiseNew_none hh hE
theorem raise_pre {x : Str} {np pos : Pos} {Q : Flow → Shared → Prop} (hbase : bm.contains (.type "BaseException") = true) (hh : A.handled = none)
    (h : wpAny M A (eval (.Name x np) env) (fun v s₁ => ∃ e ed t, v = .ref e ∧ s₁.heap.get? C = some (excClassObj nm q C N bs bm hdct sn sub ab col dd k0 k1 k2 k3 k5 newId) ∧
      s₁.heap.get? e = some (excO C ed t) ∧ E (.ref e) s₁) E s) :
    wpAny M A (exec (.Raise (some (.Name x np)) none pos) env) Q E s := by
  rw [arm_exec_Raise]
  exact wpAny_bind (wpAny_standAt (raise_stmt hbase hh (wpAny_bind (wpAny_mono h (fun v s₁ h₁ => wpAny_bind (wpAny_standAt (wpAny_pure h₁))) fun _ _ x => x))))
end
section
variable {M : Model} {A : Around} {E : Value → Shared → Prop} {s' : Shared} {base g : Heap} {outer : List Env} {L a e : Addr} {m : Str → Option Value} {name : Str} {scope : Scope} {cd : Value} {Q : Unit → Shared → Prop} {news : List (Addr × Obj)} {oe : Obj} {vs : Array Value} {a0 : Value}
theorem leave_preS (K : Below A base outer g) (F : Fr g L s'.heap m) (N : News g L s'.heap news) (he : (e, oe) ∈ news) (hd : oe.data = .fields vs) (h1 : vs[1]? = some .none) (h0 : vs[0]? = some a0)
    (hQ : ∀ h', RaisedSN base g outer e oe.cls (news.filter fun p => decide (p.1 ≠ e)) h' → g.UpToSlots h' → Q () { s' with heap := h' }) (hk : scope.kind = .function := by rfl) :
    wpAny M (A.deeper (envOf name scope L a cd)) (leaving (envOf name scope L a cd) (.ref e)) Q E s' := by
  have K' := K.push (name := name) (a := a) (cd := cd) F hk
  let fs := (envOf name scope L a cd :: outer).filterMap (·.frame)
  have hin : ∀ env ∈ (envOf name scope L a cd :: outer), ∀ b, env.frame = some b → b ∈ e :: fs := fun env he b hb => .tail _ (List.mem_filterMap.mpr ⟨env, he, hb⟩)
  have hge : g.get? e = none := (N _ he).2.2
  have hbe : base.get? e = none := fresh_of_stays K.stays hge
  have st : base.StaysIn (hideAll s'.heap (e :: fs)) := fun b o q => hideAll_get _ (K'.stays b o q) fun hm => by
    rcases List.mem_cons.mp hm with rfl | hm
    · rw [hbe] at q; cases q
    · rw [(K'.frames.mem hm).1] at q; cases q
  have sg : ∀ b o, g.get? b = some o → b ∉ outer.filterMap (·.frame) → (hideAll s'.heap (e :: fs)).get? b = some o := fun b o q nm => hideAll_get _ (F.keep b o q) fun hm => by
    rcases List.mem_cons.mp hm with rfl | hm
    · rw [hge] at q; cases q
    · rcases kts_mem hm with z | z
      · rw [z, kts_self F] at q
        cases q
      · exact nm z
  have hl : ∀ q ∈ news.filter (fun p => decide (p.1 ≠ e)), (hideAll s'.heap (e :: fs)).get? q.1 = some q.2 ∧ g.get? q.1 = none ∧ base.get? q.1 = none := fun q hq => by
    obtain ⟨hq, hne⟩ := List.mem_filter.mp hq
    have hne : q.1 ≠ e := by simpa using hne
    refine ⟨hideAll_get _ (N q hq).1 fun hm => ?_, (N q hq).2.2, fresh_of_stays K.stays (N q hq).2.2⟩
    rcases List.mem_cons.mp hm with hm | hm
    · exact hne hm
    · obtain ⟨env, he, hf⟩ := List.mem_filterMap.mp hm
      rcases List.mem_cons.mp he with rfl | he
      · exact (N q hq).2.1 (Option.some.inj hf).symm
      · obtain ⟨o, ho, _⟩ := (K.frames.mem (List.mem_filterMap.mpr ⟨env, he, hf⟩)).2
        rw [(N q hq).2.2] at ho; cases ho
  have hen : (hideAll s'.heap (e :: fs)).get? e = none := hideAll_none _ (.head _)
  refine wpAny_leaving_firstW (a0 := a0) K'.stack (funFrames_hide K'.frames hin) rfl (N _ he).1 (fun b o hb => of_hideAll _ hb) hen hd h1 h0 fun h' hL => ?_
  obtain ⟨k1, ⟨_, _, k2⟩, k3, k4⟩ := hL
  exact hQ h' ⟨_, a0, st, sg, hl, k1, hen, k2, k3⟩ ((Heap.UpToSlots.of_keeps F.keep).trans k4)
end
section
variable {prog : Program} {w : World} {A A₀ : Around} {E : Value → Shared → Prop} {s : Shared} {env : Env} {base g : Heap} {outer : List Env} {L : Addr} {m : Str → Option Value} {news : List (Addr × Obj)} {R : Result → Shared → Prop}
theorem enterE {name qual : Str} {params : Arguments} {body : List Stmt} {scope : Scope} {cl : List (Str × Addr)} {dV kV doc pm cdv ct oc : Value} {an od : Option Addr} {osl : Array (Option Value)} {f : Addr} {args : Args} {binds : List (Str × Value)}
    (G : Gd w A env g L) (B : Below A₀ base outer g) (hA : A.frames = some (env :: outer)) (F : Fr g L s.heap m) (N : News g L s.heap news)
    (ho : (hd.heap_39 w.params).lookup f = some ⟨oc, od, .func (fnX name qual params body scope cl dV kV doc pm an cdv ct), osl⟩) (hcd : codeIn (hd.heap_39 w.params) cdv qual = true)
    (hroom : A.depth < recursionLimit)
    (hbind : BindsTo s (fnX name qual params body scope cl dV kV doc pm an cdv ct) args binds) (hloc : ∀ y ∈ binds, scope.names.lookup y.1 = some .local)
    (h : ∀ g' L' h₁, Gd w (A.deeper (envX qual scope L' f cdv cl)) (envX qual scope L' f cdv cl) g' L' → Fr g L g' m → Below A base (env :: outer) g' → (∀ b o, g.get? b = some o → g'.get? b = some o) →
      Fr g' L' h₁ (fun y => binds.reverse.lookup y) → News g' L' h₁ news → (∀ p ∈ news, p.1 < L') →
      wpAny (model prog w) (A.deeper (envX qual scope L' f cdv cl)) (execs body (envX qual scope L' f cdv cl))
        (fun fl s' => LeaveK g L m g' R (match fl with | .ret v => v | _ => .none) s')
        (fun e s' => wpAny (model prog w) (A.deeper (envX qual scope L' f cdv cl)) (leaving (envX qual scope L' f cdv cl) e) (fun _ s'' => R (.error e) s'') (fun e' s'' => R (.error e') s'') s')
        { s with heap := h₁, toks := s.toks + binds.length })
    (hcell : ∀ x ∈ scope.names, x.2 ≠ .cell) (hco : scope.isCoroutine = false) (hgen : scope.isGenerator = false) (hk : scope.kind = .function) :
    codeAny (model prog w) A (.call (.ref f) args) R s := by
  obtain ⟨X, ⟨p, loose, mean, mg, mb, T⟩, _, hf, hkk⟩ := G
  refine callX_plain B F N T.nolimit hA hf hkk ((X.keeps F.keep) _ _ ho) rfl (codeRec_of (X.keeps F.keep) hcd) hroom hbind hloc (fun g' L' h₁ FG F' N' B' st l => ?_) hcell hco hgen hk
  exact h g' L' h₁ ⟨X.keeps st, ⟨p, loose, mean, mg, mb, T.keeps st⟩, ⟨A, base, env :: outer, B', Around.frames_deeper hA⟩, rfl, hk⟩ FG B' st F' N' l
end
end Vy
end
section
open PyProof.V PyProof.Rows.LCg PySem.Builtin
namespace Vy
/-- what stays from match to match -/
structure PAt (y : Mx) (n : Led) (olds : Nat → List (Nat × Addr)) (b : Nat) : Prop where
  exp : ∀ j r, y.exs[j]? = some r → EAt n y j r
  oid : ∀ j r, y.exs[j]? = some r → ∃ es c, (y.dxs.getD j 0, dictOf es c) ∈ n ∧ OidsAt n es (olds j)
  old : ∀ j, ∀ ic ∈ olds j, ∃ o, (ic.2, o) ∈ n ∧ isD o
  oln : ∀ j, (olds j).length ≤ b
structure Mx.Okp (x : Mx) : Prop where
  wf : WF x.exs
  sh : ∀ r ∈ x.exs, Shaped r
  len : x.exs.length ≤ 8 ∧ x.dxs.length = x.exs.length ∧ x.txt.length ≤ 100
  nd : x.dxs.Nodup
  wl : ∀ y, Row.word y ∈ x.exs → y.length ≤ 1000
theorem cur_len {C : List En} {i j : Nat} : (curFrom i C j).length ≤ 1 := by
  by_cases h : ∃ e ∈ C, e.own = j
  · obtain ⟨k, e, _, _, hc⟩ := cur_some (i := i) h
    rw [hc]; exact Nat.le_refl _
  · rw [cur_none fun e he q => h ⟨e, he, q⟩]; exact Nat.zero_le _
theorem cur_mem {C : List En} {j : Nat} {ic : Nat × Addr} (h : ic ∈ curOf C j) : ∃ e ∈ C, e.d = ic.2 := by
  by_cases q : ∃ e ∈ C, e.own = j
  · obtain ⟨k, e, hk, _, hc⟩ := cur_some (i := 0) q
    have hc : curOf C j = [(0 + k, e.d)] := hc
    rw [hc] at h
    simp at h
    subst h
    exact ⟨e, List.mem_of_getElem? hk, rfl⟩
  · have : curOf C j = [] := cur_none fun e he z => q ⟨e, he, z⟩
    rw [this] at h; cases h
theorem EAt.nx {n n' : Led} {x y : Mx} {k : Nat} {r : Row} (h : EAt n x k r) (ha : x.ads = y.ads) (hd : x.dxs = y.dxs) (kp : ∀ p ∈ n, p.2.cls ≠ .ref 94 → p ∈ n') : EAt n' y k r := by
  obtain ⟨o, m1, h⟩ := h
  unfold EAt
  rw [ha, hd] at h
  rw [ha] at m1
  have kt : ∀ a vs, (a, tupO vs) ∈ n → (a, tupO vs) ∈ n' := fun a vs h => kp _ h (by simp)
  cases r with
  | word y => obtain ⟨t1, t2, it, rfl⟩ := h; exact ⟨_, kp _ m1 (by simp), t1, t2, it, rfl⟩
  | all ks => obtain ⟨t2, it, mt, rfl, hm⟩ := h; exact ⟨_, kp _ m1 (by simp), t2, it, mt, rfl, kt _ _ hm⟩
  | any ks => obtain ⟨t2, it, mt, rfl, hm⟩ := h; exact ⟨_, kp _ m1 (by simp), t2, it, mt, rfl, kt _ _ hm⟩
  | neg i => obtain ⟨t2, it, mt, rfl, hm⟩ := h; exact ⟨_, kp _ m1 (by simp), t2, it, mt, rfl, kt _ _ hm⟩
  | look i => obtain ⟨t2, it, mt, rfl, hm⟩ := h; exact ⟨_, kp _ m1 (by simp), t2, it, mt, rfl, kt _ _ hm⟩
theorem OidsAt.nx {n n' : Led} {es : List DictEntry} {l : List (Nat × Addr)} (h : OidsAt n es l) (kp : ∀ p ∈ n, p.2.cls ≠ .ref 94 → p ∈ n') : OidsAt n' es l := by
  rcases h with h | ⟨h, t, tp, ps, e, hm, ha, hl⟩
  · exact .inl h
  · exact .inr ⟨h, t, tp, ps, e, kp _ hm (by simp), ha.mono fun a b ⟨t, q⟩ => ⟨t, kp _ q (by simp)⟩, hl⟩
section
variable {prog : Program} {w : World} {g : Heap} {L : Addr}
theorem GAt.first {y x : Mx} {n n' : Led} {olds : Nat → List (Nat × Addr)} {b : Nat} (hP : PAt y n olds b) (hb : b ≤ 1000) (hx : x.exs = y.exs ∧ x.ads = y.ads ∧ x.dxs = y.dxs) (sub : ∀ p ∈ n, p ∈ n') (hc : (x.cache, { cls := .type "dict", data := .dict #[] }) ∈ n') (hcs : (x.cache == sysModules) = false) (hE : ErrAt n' x) : GAt prog w x n' ⟨[], olds⟩ := by
  obtain ⟨e1, e2, e3⟩ := hx
  refine ⟨fun j r e => (hP.exp j r (by rw [← e1]; exact e)).nx e2.symm e3.symm fun p hp _ => sub p hp, fun j r e => ?_, ?_, fun a ha => (nomatch ha), fun j ic hic => ⟨?_, fun a ha => (nomatch ha)⟩, ⟨.nil, .nil, fun a ha => (nomatch ha)⟩, hE, fun a ha => (nomatch ha), fun j => Nat.le_trans (hP.oln j) hb⟩
  · obtain ⟨es, c, m1, o⟩ := hP.oid j r (by rw [← e1]; exact e)
    exact ⟨es, c, by rw [e3]; exact sub _ m1, o.nx fun p hp _ => sub p hp⟩
  · exact ⟨_, [], hc, ⟨#[], 0, ⟨rfl, rfl, rfl⟩, rfl, fun e he => by simp at he, .nil, by simp⟩, hcs, fun _ q => (by cases q), fun _ => rfl, rfl⟩
  · obtain ⟨o, m1, q⟩ := hP.old j ic hic
    exact ⟨o, sub _ m1, q⟩
theorem GAt.past {y x : Mx} {n n' : Led} {σ : Gs} {olds : Nat → List (Nat × Addr)} {b : Nat} (hG : GAt prog w x n σ) (ho : σ.olds = olds) (hl : ∀ j, (olds j).length ≤ b) (hx : x.exs = y.exs ∧ x.ads = y.ads ∧ x.dxs = y.dxs) (kp : ∀ p ∈ n, p.2.cls ≠ .ref 94 → p ∈ n') : PAt y n' (fun j => curOf σ.C j ++ σ.olds j) (b + 1) := by
  obtain ⟨e1, e2, e3⟩ := hx
  refine ⟨fun j r e => (hG.exp j r (by rw [e1]; exact e)).nx e2 e3 kp, fun j r e => ?_, fun j ic hic => ?_, fun j => ?_⟩
  · obtain ⟨es, c, m1, o⟩ := hG.oid j r (by rw [e1]; exact e)
    exact ⟨es, c, by rw [← e3]; exact kp _ m1 (by simp), o.nx kp⟩
  · rcases List.mem_append.mp hic with h | h
    · obtain ⟨e, he, hd⟩ := cur_mem h
      obtain ⟨o, kvs, m1, hdd, _⟩ := hG.mem e he
      have := isD_of hdd
      rw [hd] at m1
      exact ⟨o, kp _ m1 (by unfold isD at this; rw [this]; simp), this⟩
    · obtain ⟨⟨o, m1, q⟩, _⟩ := hG.old j ic h
      exact ⟨o, kp _ m1 (by unfold isD at q; rw [q]; simp), q⟩
  · rw [List.length_append, ho]
    have h1 := hl j
    have h2 : (curOf σ.C j).length ≤ 1 := cur_len
    omega
end
section
variable {prog : Program} {w : World} {A A₀ : Around} {s : Shared} {env : Env} {base g : Heap} {outer : List Env} {L : Addr} {m : Str → Option Value} {news : List (Addr × Obj)} {R : Result → Shared → Prop}
theorem match_spec {y : Mx} (okp : y.Okp) {k p b : Nat} {r : Row} {tp tx : Tok} {olds : Nat → List (Nat × Addr)} (hk : y.exs[k]? = some r) (B : Below A₀ base outer g) (hA : A.frames = some (env :: outer))
    (G : Gd w A env g L) (F : Fr g L s.heap m) (N : News g L s.heap news) (hdep : A.depth + 100 < recursionLimit) (hhan : A.handled = none) (hP : PAt y news olds b) (hb : b ≤ 1000) (hp : p ≤ y.txt.length)
    (hok : ∀ q v h' tk n' olds', rs y.txt y.exs k p = some q → Fr g L h' m → News g L h' n' → PAt y n' olds' (b + 1) → (∀ z ∈ news, (¬ isD z.2 ∨ z.1 ∉ y.dxs) → z ∈ n') → NodeAt n' v p q → R (.ok (.ret v)) { s with heap := h', toks := tk })
    (hno : rs y.txt y.exs k p = none → ∀ e G' h' tk n' olds', Fr g L G' m → RaisedSN base G' (env :: outer) e (.ref 94) n' h' → G'.UpToSlots h' → PAt y n' olds' (b + 1) → (∀ z ∈ news, (¬ isD z.2 ∨ z.1 ∉ y.dxs) → z ∈ n') → R (.error (.ref e)) { s with heap := h', toks := tk }) :
    codeAny (model prog w) A (.call (.ref 259) ⟨[.ref (y.ads.getD k 0), .str (S y.txt) tx, .int (nI p) tp], []⟩) R s := by
  obtain ⟨h', gn, dr, tk0, os0⟩ := s
  refine enterE G B hA F N (by k_is) (by k_is) (by omega) (binds := [("self", .ref (y.ads.getD k 0)), ("text", .str (S y.txt) tx), ("pos", .int (nI p) tp)]) (kp_binds (K := hd.heap_39 w.params) (G.X.keeps F.keep) (fun _ => rfl)) (locs rfl) (fun g' L' h' G' FG B' keep F N lt => ?_) (by decide) rfl rfl rfl
  have ⟨X, ⟨p', loose, mean, mg, mb, T⟩, _, _, _⟩ := G'
  have hk8 : k < 8 := by have := idx_lt hk; have := okp.len.1; omega
  repeat kp_kind "s"
  refine perr_make G' F N (by rw [depth_deeper]; omega) (fun e ed T0 h1 h2 h3 t1 t2 t3 t4 h' tk n1 F N sub1 fr1 hne hme hmd => ?_)
  repeat kp_kind "s"
  obtain ⟨es1, c1, md1, ho1⟩ := hP.oid k r hk
  refine ex_core F X N (((hP.exp k r hk).nx rfl rfl fun p hp _ => sub1 p hp).ex (sub1 _ md1)) (getL_oids (ho1.nx fun p hp _ => sub1 p hp) (by decide)) ?_
  repeat kp_kind "s"
  refine wpAny_Dict_empty ?_
  have hbig : (h'.objs.size == sysModules) = false := F.notModules (modules_low T.nolimit)
  have hd1 : ∀ q ∈ n1, q.1 ≠ h'.objs.size := fun q hq => Nat.ne_of_lt (Heap.lt_size (N q hq).1)
  have N := N.push F { cls := .type "dict", data := .dict #[] }
  have F := F.push { cls := .type "dict", data := .dict #[] }
  generalize hdd : h'.objs.size = c at *
  have hdxs : ∀ a ∈ y.dxs, ∃ o, (a, o) ∈ news := fun a ha => by
    obtain ⟨j, hj, e⟩ := List.getElem_of_mem ha
    have hj' : j < y.exs.length := okp.len.2.1 ▸ hj
    obtain ⟨es, c, m1, _⟩ := hP.oid j _ (List.getElem?_eq_getElem hj')
    rw [List.getD_eq_getElem?_getD, List.getElem?_eq_getElem hj] at m1
    exact ⟨_, e ▸ m1⟩
  have okx : Mx.Ok ⟨y.exs, y.ads, y.dxs, y.txt, c, e, ed⟩ := ⟨okp.wf, okp.sh, okp.len, okp.nd, ⟨fun q => by
    obtain ⟨o, ho⟩ := hdxs _ q
    exact hd1 _ (sub1 _ ho) rfl, fun q => by
    obtain ⟨o, ho⟩ := hdxs _ q
    exact (fr1 _ ho).2 rfl, hd1 _ hmd⟩, okp.wl⟩
  have hG : GAt prog w ⟨y.exs, y.ads, y.dxs, y.txt, c, e, ed⟩ ((c, { cls := .type "dict", data := .dict #[] }) :: n1) ⟨[], olds⟩ := GAt.first hP hb ⟨rfl, rfl, rfl⟩ (fun q hq => .tail _ (sub1 q hq)) (.head _) hbig
    ⟨⟨excO 94 ed T0, .tail _ hme, rfl, rfl, rfl⟩, h1, h2, h3, t1, t2, t3, _, -1, t4, .none, .tail _ hmd, .inl rfl⟩
  repeat kp_kind "s"
  have hM := @mspec_all prog w ⟨y.exs, y.ads, y.dxs, y.txt, c, e, ed⟩ okx k r hk
  refine hM G' F N (by rw [depth_deeper]; omega) hhan hG (fun a ha => (nomatch ha)) hp (fun v h' tk n2 σ' F N hG2 hF2 hext hkp hv => ?_)
  repeat kp_kind "s"
  have hsub2 : ∀ z ∈ news, (¬ isD z.2 ∨ z.1 ∉ y.dxs) → z ∈ n2 := fun z hz h => hkp.2 z (.tail _ (sub1 z hz)) (h.imp id fun h => fun hw => by
    rcases hw with hw | hw | hw | ⟨_, hw, _⟩
    · exact h hw
    · exact hd1 _ (sub1 z hz) hw
    · exact (fr1 z hz).2 hw
    · cases hw)
  have hv : ValOk n2 (rs y.txt y.exs k p) p v := hv
  cases hq : rs y.txt y.exs k p with
  | some q =>
    rw [hq] at hv
    have hv : NodeAt n2 v p q := hv
    have hv' := hv
    obtain ⟨a, dx, ch, fe, ft, t1, t2, rfl, _⟩ := hv
    refine wpAny_is_other rfl (by simp) ?_
    repeat kp_kind "s"
    refine itF (by decide) ?_
    repeat kp_kind "s"
    kp_kind "k"
    exact hok q _ _ _ _ _ hq F N (GAt.past hG2 hext.1 hP.oln ⟨rfl, rfl, rfl⟩ (fun p hp _ => hp)) hsub2 hv'
  | none =>
    rw [hq] at hv
    have hv : v = .none := hv
    subst hv
    obtain ⟨nm, q, N0, bs, bm, hdct, sn, sub, ab, col, dd, k0, k1, k2, k3, k5, hC, hE, hA', hNm, hBB⟩ := cls94x w
    refine wpAny_is_self rfl ?_
    repeat kp_kind "s"
    first | with_reducible refine itT rfl ?_ | refine itT rfl ?_
    repeat kp_kind "s"
    have he2 : (e, excO 94 ed T0) ∈ n2 := hkp.2 (e, excO 94 ed T0) (.tail _ hme) (.inl fun q => by cases q)
    refine raise_pre (nm := nm) (q := q) (C := 94) (N := N0) (bs := bs) (bm := bm) (hdct := hdct) (sn := sn) (sub := sub) (ab := ab) (col := col) (dd := dd) (k0 := k0) (k1 := k1) (k2 := k2) (k3 := k3) (k5 := k5) (newId := "Exception.__new__") hBB hhan ?_
    repeat kp_kind "s"
    refine ⟨e, ed, T0, rfl, (X.keeps F.keep) 94 _ hC, (N _ he2).1, ?_⟩
    refine leave_preS B' F N he2 rfl rfl rfl (fun h5 R5 hsm => ?_)
    have hdrop : ∀ z ∈ n2, z.2.cls ≠ .ref 94 → z ∈ n2.filter fun p => decide (p.1 ≠ e) := fun z hz hc => List.mem_filter.mpr ⟨hz, by
      simp only [decide_eq_true_eq]
      intro q
      have : z.2 = excO 94 ed T0 := News.uniq N (by rw [← q]; exact hz) he2
      exact hc (by rw [this]; rfl)⟩
    exact hno hq e g' h5 _ _ _ FG R5 hsm (GAt.past hG2 hext.1 hP.oln ⟨rfl, rfl, rfl⟩ hdrop) (fun z hz h => List.mem_filter.mpr ⟨hsub2 z hz h, by simpa using (fr1 z hz).1⟩)
end
end Vy
end
section
open PyProof.V PyProof.Rows.LCg PySem.Builtin
namespace Vy
/-- what the call did not know of stays, and is no part of what it made -/
def Apart (L : Addr) (hs : Heap) (news : Led) (h' : Heap) (n' : Led) : Prop := ∀ b o, hs.get? b = some o → (∀ z ∈ news, z.1 ≠ b) → b ≠ L → h'.get? b = some o ∧ ∀ p ∈ n', p.1 ≠ b
def LeaveM (fs : List Addr) (g : Heap) (L : Addr) (m : Str → Option Value) (g' : Heap) (hs : Heap) (news : Led) (R : Result → Shared → Prop) (v : Value) (s' : Shared) : Prop :=
  ∃ g'' L' m' n', KtsTurn fs g' g'' ∧ Fr g'' L' s'.heap m' ∧ News g'' L' s'.heap n' ∧ (Fr g L s'.heap m → News g L s'.heap n' → Apart L hs news s'.heap n' → R (.ok (.ret v)) s')
theorem leaveM_ {fs : List Addr} {g g' g'' hs : Heap} {L L' : Addr} {m m' : Str → Option Value} {news n' : Led} {R : Result → Shared → Prop} {v : Value} {s' : Shared} (T : KtsTurn fs g' g'') (F' : Fr g'' L' s'.heap m') (N' : News g'' L' s'.heap n')
    (k : Fr g L s'.heap m → News g L s'.heap n' → Apart L hs news s'.heap n' → R (.ok (.ret v)) s') : LeaveM fs g L m g' hs news R v s' := ⟨g'', L', m', n', T, F', N', k⟩
section
variable {prog : Program} {w : World} {A A₀ : Around} {s : Shared} {env : Env} {g : Heap} {L : Addr} {m : Str → Option Value} {news : List (Addr × Obj)} {R : Result → Shared → Prop}
theorem enterM {name qual : Str} {params : Arguments} {body : List Stmt} {scope : Scope} {cl : List (Str × Addr)} {dV kV doc pm cdv ct oc : Value} {an od : Option Addr} {osl : Array (Option Value)} {f : Addr} {args : Args} {binds : List (Str × Value)}
    (G : Gd w A env g L) (B : Below A₀ g [] g) (hA : A.frames = some [env]) (F : Fr g L s.heap m) (N : News g L s.heap news)
    (ho : (hd.heap_39 w.params).lookup f = some ⟨oc, od, .func (fnX name qual params body scope cl dV kV doc pm an cdv ct), osl⟩) (hcd : codeIn (hd.heap_39 w.params) cdv qual = true)
    (hroom : A.depth < recursionLimit)
    (hbind : BindsTo s (fnX name qual params body scope cl dV kV doc pm an cdv ct) args binds) (hloc : ∀ y ∈ binds, scope.names.lookup y.1 = some .local)
    (h : ∀ g' L' h₁, Gd w (A.deeper (envX qual scope L' f cdv cl)) (envX qual scope L' f cdv cl) g' L' → Below A g [env] g' → KtsDicts ([env].filterMap (·.frame)) g' →
      Fr g' L' h₁ (fun y => binds.reverse.lookup y) → News g' L' h₁ news → (∀ p ∈ news, p.1 < L') →
      wpAny (model prog w) (A.deeper (envX qual scope L' f cdv cl)) (execs body (envX qual scope L' f cdv cl))
        (fun fl s' => LeaveM ([env].filterMap (·.frame)) g L m g' s.heap news R (match fl with | .ret v => v | _ => .none) s')
        (fun e s' => wpAny (model prog w) (A.deeper (envX qual scope L' f cdv cl)) (leaving (envX qual scope L' f cdv cl) e) (fun _ s'' => R (.error e) s'') (fun e' s'' => R (.error e') s'') s')
        { s with heap := h₁, toks := s.toks + binds.length })
    (hcell : ∀ x ∈ scope.names, x.2 ≠ .cell) (hco : scope.isCoroutine = false) (hgen : scope.isGenerator = false) (hk : scope.kind = .function) :
    codeAny (model prog w) A (.call (.ref f) args) R s := by
  obtain ⟨X, ⟨p, loose, mean, mg, mb, T⟩, _, hf, hke⟩ := G
  have hlim := T.nolimit
  obtain ⟨FG, BG, st, lv⟩ := groundX (R := R) B F N hA hf hke
  obtain ⟨oL, es, ep, hL, hLd, hLk, hLf⟩ := F.ns
  have nL : L ∉ news.map (·.1) := fun q => by
    obtain ⟨p, hp, e⟩ := List.mem_map.mp q
    exact (N p hp).2.1 e
  have hLg := hideAll_get (news.map (·.1)) hL nL
  refine codeAny_call_def (fd := fnX name qual params body scope cl dV kV doc pm an cdv ct) (body := body) (binds := binds) hroom ((X.keeps F.keep) _ _ ho) rfl (hlim.keeps F.keep) (codeRec_of (X.keeps F.keep) hcd) rfl hbind hcell hloc (fun h₁ hns hk₁ => ?_) hco hgen hk
  refine wpAny_mono (h _ s.heap.objs.size h₁ ⟨X.keeps st, ⟨p, loose, mean, mg, mb, T.keeps st⟩, ⟨A, g, [env], BG, Around.frames_deeper hA⟩, rfl, hk⟩ BG (fun b hb => ?_) ⟨hns, fun b o e => hk₁ b o (of_hideAll _ e), Nat.le_of_eq (hideAll_size _ _)⟩
    (fun p hp => ⟨hk₁ _ _ (N p hp).1, Nat.ne_of_lt (Heap.lt_size (N p hp).1), hideAll_none _ (List.mem_map_of_mem hp)⟩) (fun p hp => Heap.lt_size (N p hp).1)) (fun fl s' hl => ?_) fun _ _ y => y
  · obtain ⟨e', he', h1⟩ := List.mem_filterMap.mp hb
    have he' : e' = env := by simpa using he'
    rw [he', hf] at h1
    cases h1
    exact ⟨oL, es, ep, hLg, hLd⟩
  · obtain ⟨g', L', m', news', T', F', N', k⟩ := hl
    have nL₀ : g.get? L = none := kts_self F
    obtain ⟨sl, hs⟩ := T'.up hLg
    have hap : Apart L s.heap news s'.heap news' := fun b o e hb hbL => by
      have hb' : b ∉ news.map (·.1) := fun q => by
        obtain ⟨z, hz, e⟩ := List.mem_map.mp q
        exact hb z hz e
      have e2 := T'.other b o (hideAll_get _ e hb') (fun q => by
        obtain ⟨e', he', h1⟩ := List.mem_filterMap.mp q
        have he' : e' = env := by simpa using he'
        rw [he', hf] at h1
        cases h1
        exact hbL rfl)
      exact ⟨F'.keep _ _ e2, fun p hp q => by
        have := (N' p hp).2.2
        rw [q, e2] at this
        cases this⟩
    refine k ⟨⟨_, es, ep, F'.keep _ _ hs, hLd, hLk, hLf⟩, fun b o e => F'.keep b o (T'.other b o (st b o e) (fun q => by
      obtain ⟨e', he', h1⟩ := List.mem_filterMap.mp q
      have he' : e' = env := by simpa using he'
      rw [he', hf] at h1
      cases h1
      rw [nL₀] at e
      cases e)), F.above⟩ (fun p hp => ⟨(N' p hp).1, fun q => ?_, ?_⟩) hap
    · have := (N' p hp).2.2; rw [q, hs] at this; cases this
    · cases q : g.get? p.1 with
      | none => rfl
      | some o =>
        obtain ⟨sl', hs'⟩ := T'.up (st _ _ q)
        have := (N' p hp).2.2
        rw [hs'] at this
        cases this
theorem ex_match {E : Value → Shared → Prop} {ads : List Addr} {es : List DictEntry} {n k : Nat} {r : Row} {pl : Sem Bool} {Q : Value × List Value → Shared → Prop} (F : Fr g L s.heap m) (X : (hd.heap_39 w.params).In g) (N : News g L s.heap news) (h : ExAt news ads es n k r)
    (he : getL "match" es = some none) (q : Q (.ref 259, [.ref (ads.getD k 0)]) s) : wpAny (model prog w) A (getMethod (.ref (ads.getD k 0)) "match" pl) Q E s := by
  obtain ⟨dx, o, m1, m2, h⟩ := h
  cases r with
  | word x =>
    obtain ⟨t1, t2, it, rfl⟩ := h
    exact method_inst F X (inst_of N m1 m2) (by k_is) (by k_is) (by k_is) he q
  | all ks =>
    obtain ⟨t2, it, mt, rfl, _⟩ := h
    exact method_inst F X (inst_of N m1 m2) (by k_is) (by k_is) (by k_is) he q
  | any ks =>
    obtain ⟨t2, it, mt, rfl, _⟩ := h
    exact method_inst F X (inst_of N m1 m2) (by k_is) (by k_is) (by k_is) he q
  | neg i =>
    obtain ⟨t2, it, mt, rfl, _⟩ := h
    exact method_inst F X (inst_of N m1 m2) (by k_is) (by k_is) (by k_is) he q
  | look i =>
    obtain ⟨t2, it, mt, rfl, _⟩ := h
    exact method_inst F X (inst_of N m1 m2) (by k_is) (by k_is) (by k_is) he q
theorem lre_name (w : World) : KtsName (hd.heap_39 w.params) "LeftRecursionError" (.ref 113) := .inl (by k_is)
theorem pe_name (w : World) : KtsName (hd.heap_39 w.params) "ParseError" (.ref 94) := .inl (by k_is)
theorem lre_miss (w : World) : exmOne (hd.heap_39 w.params) (.ref 94) (.ref 113) = some false := by
  have h1 : subIn (hd.heap_39 w.params) (.ref 113) (.type "BaseException") = some true := by k_is
  have h2 : isClsIn (hd.heap_39 w.params) 113 = true := by k_is
  have h3 : typeIn (hd.heap_39 w.params) (.ref 113) = some (.type "type") := by k_is
  have h4 : subIn (hd.heap_39 w.params) (.ref 94) (.ref 113) = some false := by k_is
  have h2 : (clsIn (hd.heap_39 w.params) 113).isSome = true := h2
  unfold exmOne kitCls
  rw [h1, if_pos (by rfl)]
  dsimp only
  rw [h2, h3, if_pos (by rfl), h4]
theorem pe_hit (w : World) : exmOne (hd.heap_39 w.params) (.ref 94) (.ref 94) = some true := by
  have h1 : subIn (hd.heap_39 w.params) (.ref 94) (.type "BaseException") = some true := by k_is
  have h2 : isClsIn (hd.heap_39 w.params) 94 = true := by k_is
  have h3 : typeIn (hd.heap_39 w.params) (.ref 94) = some (.type "type") := by k_is
  have h4 : subIn (hd.heap_39 w.params) (.ref 94) (.ref 94) = some true := by k_is
  have h2 : (clsIn (hd.heap_39 w.params) 94).isSome = true := h2
  unfold exmOne kitCls
  rw [h1, if_pos (by rfl)]
  dsimp only
  rw [h2, h3, if_pos (by rfl), h4]
theorem matched_spec {y : Mx} (okp : y.Okp) {k p b : Nat} {r : Row} {tp tx : Tok} {olds : Nat → List (Nat × Addr)} (hk : y.exs[k]? = some r) (B : Below A₀ g [] g) (hA : A.frames = some [env])
    (G : Gd w A env g L) (F : Fr g L s.heap m) (N : News g L s.heap news) (hdep : A.depth + 200 < recursionLimit) (hhan : A.handled = none) (hP : PAt y news olds b) (hb : b ≤ 1000) (hp : p ≤ y.txt.length)
    (hret : ∀ t h' tk n' olds', Fr g L h' m → News g L h' n' → PAt y n' olds' (b + 1) → (∀ z ∈ news, (¬ isD z.2 ∨ z.1 ∉ y.dxs) → z ∈ n') → Apart L s.heap news h' n' → R (.ok (.ret (.int (encE (rs y.txt y.exs k p)) t))) { s with heap := h', toks := tk }) :
    codeAny (model prog w) A (.call (.ref 511) ⟨[.ref (y.ads.getD k 0), .str (S y.txt) tx, .int (nI p) tp], []⟩) R s := by
  obtain ⟨h', gn, dr, tk0, os0⟩ := s
  have ⟨XB, ⟨pB, looseB, meanB, mgB, mbB, TB⟩, _, _, _⟩ := G
  refine enterM G B hA F N (by k_is) (by k_is) (by omega) (binds := [("expr", .ref (y.ads.getD k 0)), ("text", .str (S y.txt) tx), ("pos", .int (nI p) tp)]) (BindsTo.of_eq rfl) (locs rfl) (fun g' L' h' G' B' D' F N lt => ?_) (by decide) rfl rfl rfl
  have ⟨X, ⟨p', loose, mean, mg, mb, T⟩, _, _, _⟩ := G'
  kp_kind "s"
  refine wpAny_Try_except ?_
  repeat kp_kind "s"
  obtain ⟨es1, c1, md1, ho1⟩ := hP.oid k r hk
  refine ex_match F X N ((hP.exp k r hk).ex md1) (getL_oids ho1 (by decide)) ?_
  repeat kp_kind "s"
  have F0 := F
  refine match_spec okp hk B' (Around.frames_deeper hA) G' F N (by rw [depth_deeper]; omega) hhan hP hb hp (fun q v h' tk n' olds' hq F N hP' hold hv => ?_) (fun hq e G2 h' tk n' olds' F2 R2 hsm hP' hold => ?_)
  · repeat kp_kind "s"
    refine node_start F X N hv (fun t tk => ?_)
    repeat kp_kind "s"
    first | with_reducible refine eq_int ?_ | refine eq_int ?_
    repeat kp_kind "s"
    first | with_reducible refine itT (by simp) ?_ | refine itT (by simp) ?_
    repeat kp_kind "s"
    refine node_end F X N hv (fun t tk => ?_)
    repeat kp_kind "s"
    refine leaveM_ KtsTurn.refl F N (fun F N hap => ?_)
    have := fun t tk => hret t h' tk n' olds' F N hP' hold hap
    rw [hq] at this
    exact this _ _
  · refine kts_lookSN R2 F2 B' hsm D' (fun h' R2 hsm => ?_)
    refine pass_SN R2 F2 B' hsm XB TB D' (test_name (lre_name w) (lre_miss w) rfl rfl (by decide)) (fun h' R2 hsm => ?_)
    refine hit_SN0 R2 F2 B' hsm XB TB D' KtsTurn.refl (test_name (pe_name w) (pe_hit w) rfl rfl (by decide)) (fun h' g3 T3 F N K3 X3 T3' D3 => ?_)
    repeat kp_kind "s"
    first | with_reducible refine neg_int ?_ | refine neg_int ?_
    repeat kp_kind "s"
    refine leaveM_ T3 F N (fun F N hap => ?_)
    have := fun t tk => hret t h' tk n' olds' F N hP' hold hap
    rw [hq] at this
    exact this _ _
end
end Vy
end
section
open PyProof.V PyProof.Rows.LCg PySem.Builtin
namespace Vy
section
variable {prog : Program} {w : World} {A : Around} {s : Shared} {env : Env} {g : Heap} {L : Addr} {m : Str → Option Value} {news : List (Addr × Obj)} {R : Result → Shared → Prop}
theorem frameAt {E : Value → Shared → Prop} {qual : Str} {body : List Stmt} {scope : Scope} {cl : List (Str × Addr)} {cdv : Value} {f : Addr} {binds : List (Str × Value)}
    (G : Gd w A env g L) (F : Fr g L s.heap m) (N : News g L s.heap news) (hloc : ∀ y ∈ binds, scope.names.lookup y.1 = some .local)
    (h : ∀ g' L' h₁, Gd w (A.deeper (envX qual scope L' f cdv cl)) (envX qual scope L' f cdv cl) g' L' → (∀ b o, g.get? b = some o → g'.get? b = some o) → Fr g' L' h₁ (fun y => binds.reverse.lookup y) → News g' L' h₁ news → (∀ p ∈ news, p.1 < L') →
      PySem.wpAt (model prog w) (A.deeper (envX qual scope L' f cdv cl)) (.func body (envX qual scope L' f cdv cl)) (execs body (envX qual scope L' f cdv cl))
        (fun fl s' => LeaveK g L m g' R (match fl with | .ret v => v | _ => .none) s') NoE { s with heap := h₁, toks := s.toks + binds.length })
    (hcell : ∀ x ∈ scope.names, x.2 ≠ .cell) (hk : scope.kind = .function) :
    wpAny (model prog w) A.in1 (newFunctionEnv scope mainGlobals cl binds (qual ++ ".<locals>.") (some f) cdv none builtinsNs) (fun env' s₂ => s₂.heap.NoLimit ∧ codeAny (model prog w) A (.func body env') R s₂) E s := by
  obtain ⟨X, ⟨p, loose, mean, mg, mb, T⟩, ⟨A₀, base, outer, B, hA⟩, hf, hke⟩ := G
  have hlim := T.nolimit
  obtain ⟨FG, BG, st, lv⟩ := groundX (R := R) B F N hA hf hke
  refine wpAny_newFunctionEnv hcell hloc (fun h₁ hns hsb => ⟨(hlim.keeps F.keep).fresh _ hsb, ks_codeAny_funcAt ?_⟩) hk
  have hk₁ : ∀ b o, s.heap.get? b = some o → h₁.get? b = some o := fun b o e => hsb.extBut b o (Nat.ne_of_lt (Heap.lt_size e)) (Heap.get?_push_of_some _ e)
  show PySem.wpAt (model prog w) (A.deeper (envX qual scope s.heap.objs.size f cdv cl)) _ (execs body (envX qual scope s.heap.objs.size f cdv cl)) _ _ _
  exact ks_wpAt_mono (h _ s.heap.objs.size h₁ ⟨X.keeps st, ⟨p, loose, mean, mg, mb, T.keeps st⟩, ⟨A, base, env :: outer, BG, Around.frames_deeper hA⟩, rfl, hk⟩ st ⟨hns, fun b o e => hk₁ b o (of_hideAll _ e), Nat.le_of_eq (hideAll_size _ _)⟩
    (fun p hp => ⟨hk₁ _ _ (N p hp).1, Nat.ne_of_lt (Heap.lt_size (N p hp).1), hideAll_none _ (List.mem_map_of_mem hp)⟩) (fun p hp => Heap.lt_size (N p hp).1)) (fun fl s' hl => lv _ _ hl) fun _ _ y => y.elim
theorem enterSup {name qual : Str} {params : Arguments} {body : List Stmt} {scope : Scope} {cl : List (Str × Addr)} {dV kV doc pm cdv ct oc : Value} {an od : Option Addr} {osl : Array (Option Value)} {f : Addr} {args : Args} {binds : List (Str × Value)}
    (G : Gd w A env g L) (F : Fr g L s.heap m) (N : News g L s.heap news)
    (ho : (hd.heap_39 w.params).lookup f = some ⟨oc, od, .func (fnX name qual params body scope cl dV kV doc pm an cdv ct), osl⟩) (hcd : codeIn (hd.heap_39 w.params) cdv qual = true)
    (hroom : A.depth < recursionLimit)
    (hbind : BindsTo s (fnX name qual params body scope cl dV kV doc pm an cdv ct) args binds) (hloc : ∀ y ∈ binds, scope.names.lookup y.1 = some .local)
    (h : ∀ g' L' h₁, Gd w (A.deeper (envX qual scope L' f cdv cl)) (envX qual scope L' f cdv cl) g' L' → (∀ b o, g.get? b = some o → g'.get? b = some o) → Fr g' L' h₁ (fun y => binds.reverse.lookup y) → News g' L' h₁ news → (∀ p ∈ news, p.1 < L') →
      PySem.wpAt (model prog w) (A.deeper (envX qual scope L' f cdv cl)) (.func body (envX qual scope L' f cdv cl)) (execs body (envX qual scope L' f cdv cl))
        (fun fl s' => LeaveK g L m g' R (match fl with | .ret v => v | _ => .none) s') NoE { s with heap := h₁, toks := s.toks + binds.length })
    (hcell : ∀ x ∈ scope.names, x.2 ≠ .cell) (hco : scope.isCoroutine = false) (hgen : scope.isGenerator = false) (hk : scope.kind = .function) : codeAny (model prog w) A (.call (.ref f) args) R s :=
  codeAny_call_function (fd := fnX name qual params body scope cl dV kV doc pm an cdv ct) (body := body) hroom ((G.X.keeps F.keep) _ _ ho) rfl hco hgen rfl (codeRec_of (G.X.keeps F.keep) hcd) (hbind _ _ _ _ (frameAt G F N hloc h hcell hk))
def sl2 (C : Addr) (it : Addr) (v : Value) : Array (Option Value) := if C = 458 then #[none, none, some (.ref it), some v] else #[none, some (.ref it), some v]
theorem einit_spec {C x dx : Addr} {nm : List Nat} {t : Tok} (hC : C = 336 ∨ C = 394 ∨ C = 420 ∨ C = 458) (G : Gd w A env g L) (F : Fr g L s.heap m) (N : News g L s.heap news) (hdep : A.depth < recursionLimit)
    (hx : (x, ⟨.ref C, some dx, .plain, #[]⟩) ∈ news) (hdx : (dx, emptyDict) ∈ news)
    (h : ∀ h' tk n' it, Fr g L h' m → News g L h' n' → (∀ q ∈ news, q.1 ≠ x → q ∈ n') → (x, ⟨.ref C, some dx, .plain, sl2 C it (.str (S nm) t)⟩) ∈ n' → R (.ok (.ret .none)) { s with heap := h', toks := tk }) :
    codeAny (model prog w) A (.call (.ref 236) ⟨[.ref x, .str (S nm) t], []⟩) R s := by
  obtain ⟨h', gn, dr, tk0, os0⟩ := s
  refine enterN G F N (by k_is) (by k_is) hdep (binds := [("self", .ref x), ("name", .str (S nm) t)]) (kp_binds (K := hd.heap_39 w.params) (G.X.keeps F.keep) (fun _ => rfl)) (locs rfl) (fun g' L' h' G' keep F N lt => ?_) (by decide) rfl rfl rfl
  have ⟨X, ⟨p', loose, mean, mg, mb, T⟩, _, _, _⟩ := G'
  have hxd : dx ≠ x := fun q => by
    have := News.uniq N (q ▸ hdx : (x, emptyDict) ∈ news) hx
    have := congrArg Obj.cls this
    cases this
  rcases hC with rfl | rfl | rfl | rfl
  all_goals
    repeat kp_kind "s"
    refine r_setSlot F X N hx hdx (by k_is) (by k_is) (by k_is) (by k_is) (by k_is) (by decide) rfl (fun h' F N => ?_)
    repeat kp_kind "s"
    refine get_slot F X (inst_of N (put_self hx) (put_ne hdx hxd)) (by k_is) (by k_is) (by k_is) (by k_is) (by k_is) (by k_is) rfl rfl ?_
    repeat kp_kind "s"
    refine r_newTuple F N (by show 1 ≤ sizeLine; decide) (fun it h' F N li => ?_)
    repeat kp_kind "s"
    refine r_setSlot F X N (.tail _ (put_self hx)) (.tail _ (put_ne hdx hxd)) (by k_is) (by k_is) (by k_is) (by k_is) (by k_is) (by decide) rfl (fun h' F N => ?_)
    repeat kp_kind "s"
    kp_kind "k"
    exact h _ _ _ it F N (fun q hq hn => put_ne (.tail _ (put_ne hq hn)) hn) (put_self (.tail _ (put_self hx)))
end
end Vy
end
section
open PyProof.V PyProof.Rows.LCg PySem.Builtin
namespace Vy
def ProgOk (prog : Program) : Prop := ((prog.main.file : Str) == ("/claim/cut.py" : Str)) = true ∧ (prog.main.scope.names.lookup ("super" : Str)).isSome = false
section
variable {prog : Program} {w : World} {A : Around} {s : Shared} {env : Env} {g : Heap} {L : Addr} {m : Str → Option Value} {news : List (Addr × Obj)} {R : Result → Shared → Prop}
theorem lit_init {x dx : Addr} {nm word : List Nat} {t tw : Tok} {kw : List (Str × Value)} (po : ProgOk prog) (hkw : kw = [(("name" : Str), Value.str (S nm) t)] ∨ (kw = [] ∧ nm = [])) (G : Gd w A env g L) (F : Fr g L s.heap m) (N : News g L s.heap news) (hdep : A.depth + 1 < recursionLimit)
    (hx : (x, ⟨.ref 336, some dx, .plain, #[]⟩) ∈ news) (hdx : (dx, emptyDict) ∈ news)
    (h : ∀ h' tk n' it t, Fr g L h' m → News g L h' n' → (∀ q ∈ news, q.1 ≠ x → q ∈ n') → (x, ⟨.ref 336, some dx, .plain, #[some (.str (S word) tw), some (.ref it), some (.str (S nm) t)]⟩) ∈ n' → R (.ok (.ret .none)) { s with heap := h', toks := tk }) :
    codeAny (model prog w) A (.call (.ref 318) ⟨[.ref x, .str (S word) tw], kw⟩) R s := by
  obtain ⟨h', gn, dr, tk0, os0⟩ := s
  rcases hkw with rfl | ⟨rfl, rfl⟩
  · refine enterSup G F N (by k_is) (by k_is) (by omega) (binds := [("self", .ref x), ("literal", .str (S word) tw), ("name", .str (S nm) t)]) (kp_binds (K := hd.heap_39 w.params) (G.X.keeps F.keep) (fun _ => rfl)) (locs rfl) (fun g' L' h' G' keep F N lt => ?_) (by decide) rfl rfl rfl
    have ⟨X, ⟨p', loose, mean, mg, mb, T⟩, _, _, _⟩ := G'
    have hxd : dx ≠ x := fun q => by
      have := News.uniq N (q ▸ hdx : (x, emptyDict) ∈ news) hx
      have := congrArg Obj.cls this
      cases this
    refine ks_wpAt_execs_cons (ks_wpAt_Expr_any (ks_wpAt_MethodCall ?_))
    refine ks_node F X N T (by k_is) (by rfl) (by kp_kind "lk") (inst_of N hx hdx) (by k_is) (by rfl) po.1 (by k_is) (by k_is) (by k_is) (by k_is) (by decide) (by rfl) (by rfl) (by rfl) (by rfl) po.2 (by first | boot_by_name | rfl | kernel_rfl) (fun so h' F N lso => ?_)
    refine ks_method F X N (.head _) (inst_of N (.tail _ hx) (.tail _ hdx)) (by k_is) (f2 := 236) (by ks_is) (by k_is) (by decide) (fun q h' F N lq => ?_)
    first | with_reducible refine callWith_M X N (.head _) (by k_is) ?_ | refine callWith_M X N (.head _) (by k_is) ?_
    repeat kp_kind "s"
    refine ⟨methP N (.head _) (X.keeps F.keep), call_meth N (.head _) ?_⟩
    refine einit_spec (.inl rfl) G' F N (by rw [depth_deeper]; omega) (.tail _ (.tail _ hx)) (.tail _ (.tail _ hdx)) (fun h' tk n1 it1 F N sub1 hx1 => ?_)
    have hdx1 := sub1 _ (.tail _ (.tail _ hdx)) hxd
    have hx1 : (x, ⟨.ref 336, some dx, .plain, #[none, some (.ref it1), some (.str _ _)]⟩) ∈ n1 := hx1
    refine PySem.wpAt_of_wpAny ?_
    repeat kp_kind "s"
    refine r_setSlot (sl' := #[some (.str (S word) tw), some (.ref it1), some (.str _ _)]) F X N hx1 hdx1 (by k_is) (by k_is) (by k_is) (by k_is) (by k_is) (by decide) (by rfl) (fun h' F N => ?_)
    repeat kp_kind "s"
    refine r_newTuple F N (by show 2 ≤ sizeLine; decide) (fun it h' F N li => ?_)
    repeat kp_kind "s"
    refine r_setSlot (sl' := #[some (.str (S word) tw), some (.ref it), some (.str _ _)]) F X N (.tail _ (put_self hx1)) (.tail _ (put_ne hdx1 hxd)) (by k_is) (by k_is) (by k_is) (by k_is) (by k_is) (by decide) (by rfl) (fun h' F N => ?_)
    repeat kp_kind "s"
    kp_kind "k"
    exact h _ _ _ it _ F N (fun q hq hn => put_ne (.tail _ (put_ne (sub1 _ (.tail _ (.tail _ hq)) hn) hn)) hn) (put_self (.tail _ (put_self hx1)))
  · refine enterSup G F N (by k_is) (by k_is) (by omega) (binds := [("self", .ref x), ("literal", .str (S word) tw), ("name", .str (S []) _)]) (kp_binds (K := hd.heap_39 w.params) (G.X.keeps F.keep) (fun _ => rfl)) (locs rfl) (fun g' L' h' G' keep F N lt => ?_) (by decide) rfl rfl rfl
    have ⟨X, ⟨p', loose, mean, mg, mb, T⟩, _, _, _⟩ := G'
    have hxd : dx ≠ x := fun q => by
      have := News.uniq N (q ▸ hdx : (x, emptyDict) ∈ news) hx
      have := congrArg Obj.cls this
      cases this
    refine ks_wpAt_execs_cons (ks_wpAt_Expr_any (ks_wpAt_MethodCall ?_))
    refine ks_node F X N T (by k_is) (by rfl) (by kp_kind "lk") (inst_of N hx hdx) (by k_is) (by rfl) po.1 (by k_is) (by k_is) (by k_is) (by k_is) (by decide) (by rfl) (by rfl) (by rfl) (by rfl) po.2 (by first | boot_by_name | rfl | kernel_rfl) (fun so h' F N lso => ?_)
    refine ks_method F X N (.head _) (inst_of N (.tail _ hx) (.tail _ hdx)) (by k_is) (f2 := 236) (by ks_is) (by k_is) (by decide) (fun q h' F N lq => ?_)
    first | with_reducible refine callWith_M X N (.head _) (by k_is) ?_ | refine callWith_M X N (.head _) (by k_is) ?_
    repeat kp_kind "s"
    refine ⟨methP N (.head _) (X.keeps F.keep), call_meth N (.head _) ?_⟩
    refine einit_spec (.inl rfl) G' F N (by rw [depth_deeper]; omega) (.tail _ (.tail _ hx)) (.tail _ (.tail _ hdx)) (fun h' tk n1 it1 F N sub1 hx1 => ?_)
    have hdx1 := sub1 _ (.tail _ (.tail _ hdx)) hxd
    have hx1 : (x, ⟨.ref 336, some dx, .plain, #[none, some (.ref it1), some (.str _ _)]⟩) ∈ n1 := hx1
    refine PySem.wpAt_of_wpAny ?_
    repeat kp_kind "s"
    refine r_setSlot (sl' := #[some (.str (S word) tw), some (.ref it1), some (.str _ _)]) F X N hx1 hdx1 (by k_is) (by k_is) (by k_is) (by k_is) (by k_is) (by decide) (by rfl) (fun h' F N => ?_)
    repeat kp_kind "s"
    refine r_newTuple F N (by show 2 ≤ sizeLine; decide) (fun it h' F N li => ?_)
    repeat kp_kind "s"
    refine r_setSlot (sl' := #[some (.str (S word) tw), some (.ref it), some (.str _ _)]) F X N (.tail _ (put_self hx1)) (.tail _ (put_ne hdx1 hxd)) (by k_is) (by k_is) (by k_is) (by k_is) (by k_is) (by decide) (by rfl) (fun h' F N => ?_)
    repeat kp_kind "s"
    kp_kind "k"
    exact h _ _ _ it _ F N (fun q hq hn => put_ne (.tail _ (put_ne (sub1 _ (.tail _ (.tail _ hq)) hn) hn)) hn) (put_self (.tail _ (put_self hx1)))
end
end Vy
end
section
open PyProof.V PyProof.Rows.LCg PySem.Builtin
namespace Vy
section
variable {prog : Program} {w : World} {A : Around} {s : Shared} {env : Env} {g : Heap} {L : Addr} {m : Str → Option Value} {news : List (Addr × Obj)} {R : Result → Shared → Prop}
theorem enterSup2 {name qual : Str} {params : Arguments} {body : List Stmt} {scope : Scope} {cl : List (Str × Addr)} {dV kV doc pm cdv ct oc : Value} {an od : Option Addr} {osl : Array (Option Value)} {f : Addr} {args : Args} {vs : List Value} {nm nr : Str} {ex front : List (Str × Value)} {g₁ : Addr → Sem (List (Str × Value))} {g₂ : Addr → Addr → Sem (List (Str × Value))}
    (G : Gd w A env g L) (F : Fr g L s.heap m) (N : News g L s.heap news)
    (ho : (hd.heap_39 w.params).lookup f = some ⟨oc, od, .func (fnX name qual params body scope cl dV kV doc pm an cdv ct), osl⟩) (hcd : codeIn (hd.heap_39 w.params) cdv qual = true)
    (hroom : A.depth < recursionLimit) (hn : kwDistinct ex = true)
    (hp : peekA (hd.heap_39 w.params) ⟨prog, w.params⟩ (bindArgs (fnX name qual params body scope cl dV kV doc pm an cdv ct) args) = some (({ cls := .type "tuple", data := .seq vs.toArray } : Obj), g₁))
    (hp₂ : ∀ D, peekA (hd.heap_39 w.params) ⟨prog, w.params⟩ (g₁ D) = some (dictOf [] 0, g₂ D))
    (hk₂ : ∀ C D, g₂ C D = (forIn ex PUnit.unit (fun x _ => (nsSet D x.1 x.2 >>= fun _ => pure (ForInStep.yield PUnit.unit))) >>= fun _ => pure (front ++ [(nr, Value.ref C)] ++ [(nm, Value.ref D)])))
    (hloc : ∀ C D, ∀ y ∈ front ++ [(nr, Value.ref C)] ++ [(nm, Value.ref D)], scope.names.lookup y.1 = some .local)
    (h : ∀ C D o g' L' h₁ tk, Gd w (A.deeper (envX qual scope L' f cdv cl)) (envX qual scope L' f cdv cl) g' L' → (∀ p ∈ news, p.1 < C) → C < D → (D == sysModules) = false → o.IsDictOf (strKind prog w) ex → Fr g' L' h₁ (fun y => (front ++ [(nr, Value.ref C)] ++ [(nm, Value.ref D)]).reverse.lookup y) →
      News g' L' h₁ ((D, o) :: (C, tupO vs) :: news) →
      PySem.wpAt (model prog w) (A.deeper (envX qual scope L' f cdv cl)) (.func body (envX qual scope L' f cdv cl)) (execs body (envX qual scope L' f cdv cl))
        (fun fl s' => LeaveK g L m g' R (match fl with | .ret v => v | _ => .none) s') NoE { s with heap := h₁, toks := tk })
    (hcell : ∀ x ∈ scope.names, x.2 ≠ .cell) (hco : scope.isCoroutine = false) (hgen : scope.isGenerator = false) (hk : scope.kind = .function) : codeAny (model prog w) A (.call (.ref f) args) R s := by
  have hn' := kwDistinct_nodup hn
  have hlim : Heap.NoLimit g := by obtain ⟨_, ⟨p, loose, mean, mg, mb, T⟩, _⟩ := G; exact T.nolimit
  refine codeAny_call_function (fd := fnX name qual params body scope cl dV kV doc pm an cdv ct) (body := body) hroom ((G.X.keeps F.keep) _ _ ho) rfl hco hgen rfl (codeRec_of (G.X.keeps F.keep) hcd) ?_
  refine wp_of_peekA (o := ({ cls := .type "tuple", data := .seq vs.toArray } : Obj)) F N (G.X.keeps F.keep) rfl _ g₁ hp fun h' F' N' l => ?_
  refine wp_of_peekA (s := { s with heap := h' }) (o := dictOf [] 0) F' N' (G.X.keeps F'.keep) rfl _ (g₂ s.heap.objs.size) (hp₂ _) fun h'' F'' N'' l' => ?_
  rw [hk₂]
  refine wpAny_bind (kp_fill ex { s with heap := h'' } [] 0 F'' N'' (fun p hp => Nat.ne_of_lt (l' p hp)) (fun _ he => nomatch he) (fun _ he => nomatch he) hn' fun h₃ F₃ N₃ => wpAny_pure ?_)
  exact frameAt (s := { s with heap := h₃, toks := s.toks + ex.length }) G F₃ N₃ (hloc _ _) (fun g' L' h₁ G' keep F N lt => h _ _ _ g' L' h₁ _ G' l (l' _ (.head _)) (F'.notModules (modules_low hlim)) (kp_isDict s.toks (0 + ex.length) hn') F N) hcell hk
def sl3 (C : Addr) (mt it : Addr) (v : Value) : Array (Option Value) := if C = 458 then #[none, some (.ref mt), some (.ref it), some v] else #[some (.ref mt), some (.ref it), some v]
theorem comp_init {C x dx : Addr} {nm : List Nat} {t : Tok} {vals : List Value} {v1 v2 v3 : Value} (po : ProgOk prog) (hv : vals = [v1] ∨ vals = [v1, v2] ∨ vals = [v1, v2, v3]) (hC : C = 394 ∨ C = 420 ∨ C = 458) (G : Gd w A env g L) (F : Fr g L s.heap m) (N : News g L s.heap news) (hdep : A.depth + 1 < recursionLimit)
    (hx : (x, ⟨.ref C, some dx, .plain, #[]⟩) ∈ news) (hdx : (dx, emptyDict) ∈ news)
    (h : ∀ h' tk n' it mt, Fr g L h' m → News g L h' n' → (∀ q ∈ news, q.1 ≠ x → q ∈ n') → (x, ⟨.ref C, some dx, .plain, sl3 C mt it (.str (S nm) t)⟩) ∈ n' → (mt, tupO vals) ∈ n' → R (.ok (.ret .none)) { s with heap := h', toks := tk }) :
    codeAny (model prog w) A (.call (.ref 356) ⟨.ref x :: vals, [(("name" : Str), Value.str (S nm) t)]⟩) R s := by
  obtain ⟨h', gn, dr, tk0, os0⟩ := s
  rcases hv with rfl | rfl | rfl
  · refine' enterSup2 (vs := [v1]) (ex := [(("name" : Str), Value.str (S nm) t)]) (front := [(("self" : Str), Value.ref x)]) (nr := "members") (nm := "kwargs") G F N ?k6 ?k7 ?k8 ?kN ?kP ?kS ?kT ?kB (fun mt kd o g' L' h' tk G' l1 l2 lo hod F N => ?_) ?c5 ?c2 ?c3 ?c4
    case k6 => k_is
    case k7 => k_is
    case k8 => omega
    case kN => rfl
    case kP => exact rfl
    case kS => exact fun _ => rfl
    case kT => exact fun _ _ => rfl
    case kB => exact fun _ _ => locs rfl
    case c5 => decide
    case c2 => exact rfl
    case c3 => exact rfl
    case c4 => exact rfl
    have ⟨X, ⟨p', loose, mean, mg, mb, T⟩, _, _, _⟩ := G'
    have hxd : dx ≠ x := fun q => by
      have := News.uniq N (q ▸ (.tail _ (.tail _ hdx)) : (x, emptyDict) ∈ _) (.tail _ (.tail _ hx))
      have := congrArg Obj.cls this
      cases this
    refine ks_wpAt_execs_cons (ks_wpAt_Expr_any (ks_wpAt_MethodCall ?_))
    rcases hC with rfl | rfl | rfl
    all_goals
      refine ks_node F X N T (by k_is) (by rfl) (by rfl) (inst_of N (.tail _ (.tail _ hx)) (.tail _ (.tail _ hdx))) (by k_is) (by rfl) po.1 (by k_is) (by k_is) (by k_is) (by k_is) (by decide) (by rfl) (by rfl) (by rfl) (by rfl) po.2 (by first | boot_by_name | rfl | kernel_rfl) (fun so h' F N lso => ?_)
      refine ks_method F X N (.head _) (inst_of N (.tail _ (.tail _ (.tail _ hx))) (.tail _ (.tail _ (.tail _ hdx)))) (by k_is) (f2 := 236) (by ks_is) (by k_is) (by decide) (fun q h' F N lq => ?_)
      first | with_reducible refine callWith_M X N (.head _) (by k_is) ?_ | refine callWith_M X N (.head _) (by k_is) ?_
      refine args_cons ?_
      refine MethodCall_ ?_
      refine nameX_L F (by rfl) ?_ (by rfl) (by rfl)
      refine kdg_method N (.tail _ (.tail _ (.head _))) hod ?_
      repeat kp_kind "s"
      refine kdg_get2 (knd := PySem.strKind _ _) N (.tail _ (.tail _ (.head _))) hod lo (strKind_is _ _ _ _) (some (.str (S nm) t)) (by rfl) ?_
      refine args_nil ?_
      refine ⟨methP N (.head _) (X.keeps F.keep), call_meth N (.head _) ?_⟩
      refine einit_spec (by first | exact .inr (.inl rfl) | exact .inr (.inr (.inl rfl)) | exact .inr (.inr (.inr rfl))) G' F N (by rw [depth_deeper]; omega) (.tail _ (.tail _ (.tail _ (.tail _ hx)))) (.tail _ (.tail _ (.tail _ (.tail _ hdx)))) (fun h' tk n1 it1 F N sub1 hx1 => ?_)
      have hdx1 := sub1 _ (.tail _ (.tail _ (.tail _ (.tail _ hdx)))) hxd
      refine PySem.wpAt_of_wpAny ?_
      repeat kp_kind "s"
      refine r_setSlot F X N hx1 hdx1 (by k_is) (by k_is) (by k_is) (by k_is) (by k_is) (by decide) rfl (fun h' F N => ?_)
      repeat kp_kind "s"
      kp_kind "k"
      have hmx : mt ≠ x := fun q => by rw [q] at l1; exact Nat.lt_irrefl _ (l1 _ hx)
      exact h _ _ _ it1 mt F N (fun q hq hn => put_ne (sub1 _ (.tail _ (.tail _ (.tail _ (.tail _ hq)))) hn) hn) (put_self hx1) (put_ne (sub1 _ (.tail _ (.tail _ (.tail _ (.head _)))) hmx) hmx)
  · refine' enterSup2 (vs := [v1, v2]) (ex := [(("name" : Str), Value.str (S nm) t)]) (front := [(("self" : Str), Value.ref x)]) (nr := "members") (nm := "kwargs") G F N ?k6 ?k7 ?k8 ?kN ?kP ?kS ?kT ?kB (fun mt kd o g' L' h' tk G' l1 l2 lo hod F N => ?_) ?c5 ?c2 ?c3 ?c4
    case k6 => k_is
    case k7 => k_is
    case k8 => omega
    case kN => rfl
    case kP => exact rfl
    case kS => exact fun _ => rfl
    case kT => exact fun _ _ => rfl
    case kB => exact fun _ _ => locs rfl
    case c5 => decide
    case c2 => exact rfl
    case c3 => exact rfl
    case c4 => exact rfl
    have ⟨X, ⟨p', loose, mean, mg, mb, T⟩, _, _, _⟩ := G'
    have hxd : dx ≠ x := fun q => by
      have := News.uniq N (q ▸ (.tail _ (.tail _ hdx)) : (x, emptyDict) ∈ _) (.tail _ (.tail _ hx))
      have := congrArg Obj.cls this
      cases this
    refine ks_wpAt_execs_cons (ks_wpAt_Expr_any (ks_wpAt_MethodCall ?_))
    rcases hC with rfl | rfl | rfl
    all_goals
      refine ks_node F X N T (by k_is) (by rfl) (by rfl) (inst_of N (.tail _ (.tail _ hx)) (.tail _ (.tail _ hdx))) (by k_is) (by rfl) po.1 (by k_is) (by k_is) (by k_is) (by k_is) (by decide) (by rfl) (by rfl) (by rfl) (by rfl) po.2 (by first | boot_by_name | rfl | kernel_rfl) (fun so h' F N lso => ?_)
      refine ks_method F X N (.head _) (inst_of N (.tail _ (.tail _ (.tail _ hx))) (.tail _ (.tail _ (.tail _ hdx)))) (by k_is) (f2 := 236) (by ks_is) (by k_is) (by decide) (fun q h' F N lq => ?_)
      first | with_reducible refine callWith_M X N (.head _) (by k_is) ?_ | refine callWith_M X N (.head _) (by k_is) ?_
      refine args_cons ?_
      refine MethodCall_ ?_
      refine nameX_L F (by rfl) ?_ (by rfl) (by rfl)
      refine kdg_method N (.tail _ (.tail _ (.head _))) hod ?_
      repeat kp_kind "s"
      refine kdg_get2 (knd := PySem.strKind _ _) N (.tail _ (.tail _ (.head _))) hod lo (strKind_is _ _ _ _) (some (.str (S nm) t)) (by rfl) ?_
      refine args_nil ?_
      refine ⟨methP N (.head _) (X.keeps F.keep), call_meth N (.head _) ?_⟩
      refine einit_spec (by first | exact .inr (.inl rfl) | exact .inr (.inr (.inl rfl)) | exact .inr (.inr (.inr rfl))) G' F N (by rw [depth_deeper]; omega) (.tail _ (.tail _ (.tail _ (.tail _ hx)))) (.tail _ (.tail _ (.tail _ (.tail _ hdx)))) (fun h' tk n1 it1 F N sub1 hx1 => ?_)
      have hdx1 := sub1 _ (.tail _ (.tail _ (.tail _ (.tail _ hdx)))) hxd
      refine PySem.wpAt_of_wpAny ?_
      repeat kp_kind "s"
      refine r_setSlot F X N hx1 hdx1 (by k_is) (by k_is) (by k_is) (by k_is) (by k_is) (by decide) rfl (fun h' F N => ?_)
      repeat kp_kind "s"
      kp_kind "k"
      have hmx : mt ≠ x := fun q => by rw [q] at l1; exact Nat.lt_irrefl _ (l1 _ hx)
      exact h _ _ _ it1 mt F N (fun q hq hn => put_ne (sub1 _ (.tail _ (.tail _ (.tail _ (.tail _ hq)))) hn) hn) (put_self hx1) (put_ne (sub1 _ (.tail _ (.tail _ (.tail _ (.head _)))) hmx) hmx)
  · refine' enterSup2 (vs := [v1, v2, v3]) (ex := [(("name" : Str), Value.str (S nm) t)]) (front := [(("self" : Str), Value.ref x)]) (nr := "members") (nm := "kwargs") G F N ?k6 ?k7 ?k8 ?kN ?kP ?kS ?kT ?kB (fun mt kd o g' L' h' tk G' l1 l2 lo hod F N => ?_) ?c5 ?c2 ?c3 ?c4
    case k6 => k_is
    case k7 => k_is
    case k8 => omega
    case kN => rfl
    case kP => exact rfl
    case kS => exact fun _ => rfl
    case kT => exact fun _ _ => rfl
    case kB => exact fun _ _ => locs rfl
    case c5 => decide
    case c2 => exact rfl
    case c3 => exact rfl
    case c4 => exact rfl
    have ⟨X, ⟨p', loose, mean, mg, mb, T⟩, _, _, _⟩ := G'
    have hxd : dx ≠ x := fun q => by
      have := News.uniq N (q ▸ (.tail _ (.tail _ hdx)) : (x, emptyDict) ∈ _) (.tail _ (.tail _ hx))
      have := congrArg Obj.cls this
      cases this
    refine ks_wpAt_execs_cons (ks_wpAt_Expr_any (ks_wpAt_MethodCall ?_))
    rcases hC with rfl | rfl | rfl
    all_goals
      refine ks_node F X N T (by k_is) (by rfl) (by rfl) (inst_of N (.tail _ (.tail _ hx)) (.tail _ (.tail _ hdx))) (by k_is) (by rfl) po.1 (by k_is) (by k_is) (by k_is) (by k_is) (by decide) (by rfl) (by rfl) (by rfl) (by rfl) po.2 (by first | boot_by_name | rfl | kernel_rfl) (fun so h' F N lso => ?_)
      refine ks_method F X N (.head _) (inst_of N (.tail _ (.tail _ (.tail _ hx))) (.tail _ (.tail _ (.tail _ hdx)))) (by k_is) (f2 := 236) (by ks_is) (by k_is) (by decide) (fun q h' F N lq => ?_)
      first | with_reducible refine callWith_M X N (.head _) (by k_is) ?_ | refine callWith_M X N (.head _) (by k_is) ?_
      refine args_cons ?_
      refine MethodCall_ ?_
      refine nameX_L F (by rfl) ?_ (by rfl) (by rfl)
      refine kdg_method N (.tail _ (.tail _ (.head _))) hod ?_
      repeat kp_kind "s"
      refine kdg_get2 (knd := PySem.strKind _ _) N (.tail _ (.tail _ (.head _))) hod lo (strKind_is _ _ _ _) (some (.str (S nm) t)) (by rfl) ?_
      refine args_nil ?_
      refine ⟨methP N (.head _) (X.keeps F.keep), call_meth N (.head _) ?_⟩
      refine einit_spec (by first | exact .inr (.inl rfl) | exact .inr (.inr (.inl rfl)) | exact .inr (.inr (.inr rfl))) G' F N (by rw [depth_deeper]; omega) (.tail _ (.tail _ (.tail _ (.tail _ hx)))) (.tail _ (.tail _ (.tail _ (.tail _ hdx)))) (fun h' tk n1 it1 F N sub1 hx1 => ?_)
      have hdx1 := sub1 _ (.tail _ (.tail _ (.tail _ (.tail _ hdx)))) hxd
      refine PySem.wpAt_of_wpAny ?_
      repeat kp_kind "s"
      refine r_setSlot F X N hx1 hdx1 (by k_is) (by k_is) (by k_is) (by k_is) (by k_is) (by decide) rfl (fun h' F N => ?_)
      repeat kp_kind "s"
      kp_kind "k"
      have hmx : mt ≠ x := fun q => by rw [q] at l1; exact Nat.lt_irrefl _ (l1 _ hx)
      exact h _ _ _ it1 mt F N (fun q hq hn => put_ne (sub1 _ (.tail _ (.tail _ (.tail _ (.tail _ hq)))) hn) hn) (put_self hx1) (put_ne (sub1 _ (.tail _ (.tail _ (.tail _ (.head _)))) hmx) hmx)
end
end Vy
end
section
open PyProof.V PyProof.Rows.LCg PySem.Builtin
namespace Vy
section
variable {prog : Program} {w : World} {A : Around} {E : Value → Shared → Prop} {g : Heap} {L : Addr} {m : Str → Option Value} {news : List (Addr × Obj)}
variable {h : Heap} {gn : Array GenState} {dr : Drawn} {tk : Nat} {os : OsState}
theorem merge_one {kd d : Addr} {nm : Str} {hs : Int} {t : Tok} {v : Value} {Q : Unit → Shared → Prop} (F : Fr g L h m) (N : News g L h ((d, emptyDict) :: news)) (hne : ∀ p ∈ news, p.1 ≠ d) (hkd : (kd, dictOf [⟨hs, .str nm t, v⟩] 1) ∈ news) (lo : (kd == sysModules) = false)
    (hh : hs = PyData.keyHash w.params nm) (hq : ∀ h', Fr g L h' m → News g L h' ((d, dictOf [⟨hs, .str nm t, v⟩] 1) :: news) → Q () ⟨h', gn, dr, tk, os⟩) :
    wpAny (model prog w) A (mergeMapping d (.ref kd) true) Q E ⟨h, gn, dr, tk, os⟩ := by
  have D := (N _ (.head _)).1
  have K := (N _ (.tail _ hkd)).1
  have hT : (⟨h, gn, dr, tk, os⟩ : Shared).TypeIs (.ref kd) "dict" := ⟨_, K, rfl⟩
  have f1 := PySem.F.sub_dict_dict
  have f2 := PySem.F.slot_dict_iter.lookup
  unfold mergeMapping
  repeat (any_goals (first | assumption | wp_step))
  have fz : Array.findIdx? (fun x : DictEntry => x.key.isStr nm) #[] = none := by simp
  rw [fz]
  repeat (any_goals (first | assumption | wp_step))
  rw [fz]
  repeat (any_goals (first | assumption | wp_step))
  obtain ⟨F2, N2⟩ := news_upd (pre := []) (o' := dictOf [⟨hs, .str nm t, v⟩] 1) (f := Obj.mapDictKeys fun x => x.push ⟨hs, .str nm t, v⟩) F N (fun _ q => nomatch q) hne rfl rfl
  have K2 := (N2 _ (.tail _ hkd)).1
  refine wpAny_loadPart_at K2 ?_
  repeat (any_goals (first | assumption | wp_step))
  exact hq _ F2 N2
theorem evalArgs_kk {M : Model} {s : Shared} {f : Value} {x y : Sem Value} {rest : List (Bool × Sem Value)} {Q : Args → Shared → Prop}
    (hh : wpAny M A (spliced ((false, x) :: rest)) (fun vs s₁ => wpAny M A (mergedKeywords f [(none, y)]) (fun d s₂ => wpAny M A (keywordsIn f d) (fun kw s₃ => Q ⟨vs, kw⟩ s₃) E s₂) E s₁) E s) : wpAny M A (evalArgs f true ((false, x) :: rest) [(none, y)]) Q E s := by
  unfold evalArgs
  show wpAny M A (spliced ((false, x) :: rest) >>= _) Q E s
  refine wpAny_bind (wpAny_mono hh (fun vs s' h' => ?_) fun _ _ x => x)
  refine wpAny_holding ?_
  rw [if_neg (by simp)]
  refine wpAny_bind (wpAny_mono h' (fun d s₂ h2 => ?_) fun _ _ x => x)
  refine wpAny_bind (wpAny_pure (wpAny_bind (wpAny_holding (wpAny_mono h2 (fun kw s₃ h3 => wpAny_pure h3) fun _ _ x => x))))
theorem evalArgs_kk2 {M : Model} {s : Shared} {env : Env} {pos p2 : Pos} {f : Value} {e e2 : PySem.Expr} {rest : List PySem.Expr} {Q : Args → Shared → Prop}
    (hh : wpAny M A (spliced (backTo pos (starEach (e :: rest) env))) (fun vs s₁ => wpAny M A (mergedKeywords f [(none, (do let v ← eval e2 env; standAt pos; pure v))]) (fun d s₂ => wpAny M A (keywordsIn f d) (fun kw s₃ => Q ⟨vs, kw⟩ s₃) E s₂) E s₁) E s)
    (he : starEach (e :: rest) env = (false, eval e env) :: starEach rest env := by rfl) :
    wpAny M A (evalArgs f true (backTo pos (starEach (e :: rest) env)) (backToKw pos (keywordEach [⟨none, e2, p2⟩] env))) Q E s := by
  rw [he] at hh ⊢
  exact evalArgs_kk hh
theorem keywords_one {kd : Addr} {f : Value} {nm : Str} {hs : Int} {t : Tok} {v : Value} {Q : List (Str × Value) → Shared → Prop} (N : News g L h news) (hkd : (kd, dictOf [⟨hs, .str nm t, v⟩] 1) ∈ news)
    (hq : Q [(nm, v)] ⟨h, gn, dr, tk, os⟩) : wpAny (model prog w) A (keywordsIn f kd) Q E ⟨h, gn, dr, tk, os⟩ := by
  have K := (N _ hkd).1
  unfold keywordsIn
  repeat (any_goals (first | assumption | wp_step))
theorem merged_one {f : Value} {y : Sem Value} {kd : Addr} {nm : Str} {hs : Int} {t : Tok} {v : Value} {Q : Addr → Shared → Prop} (F : Fr g L h m) (N : News g L h news)
    (hy : ∀ h' : Heap, ∀ P : Value → Shared → Prop, Fr g L h' m → P (.ref kd) ⟨h', gn, dr, tk, os⟩ → wpAny (model prog w) A y P E ⟨h', gn, dr, tk, os⟩)
    (hkd : (kd, dictOf [⟨hs, .str nm t, v⟩] 1) ∈ news) (lo : (kd == sysModules) = false) (hh : hs = PyData.keyHash w.params nm)
    (hq : ∀ h' d, Fr g L h' m → News g L h' ((d, dictOf [⟨hs, .str nm t, v⟩] 1) :: news) → Q d ⟨h', gn, dr, tk, os⟩) :
    wpAny (model prog w) A (mergedKeywords f [(none, y)]) Q E ⟨h, gn, dr, tk, os⟩ := by
  have N1 := N.push F emptyDict
  have F1 := F.push emptyDict
  have hne : ∀ p ∈ news, p.1 ≠ h.objs.size := fun p hp => Nat.ne_of_lt (Heap.lt_size (N p hp).1)
  unfold mergedKeywords
  refine wpAny_bind (wpAny_alloc ?_)
  refine wpAny_bind (wpAny_holding ?_)
  repeat (any_goals (first | assumption | wp_step))
  refine hy _ _ F1 ?_
  refine wpAny_bind (wpAny_onRaise ?_)
  refine wpAny_holding ?_
  refine wpAny_tryCatch (wpAny_onRaise ?_)
  refine merge_one F1 N1 hne hkd lo hh (fun h' F' N' => ?_)
  repeat (any_goals (first | assumption | wp_step))
  exact hq _ _ F' N'
end
end Vy
end
section
open PyProof.V PyProof.Rows.LCg PySem.Builtin
namespace Vy
section
variable {M : Model} {A : Around} {E : Value → Shared → Prop} {s : Shared} {env : Env} {c : Code}
theorem callkk {P : Heap → Prop} {f : Value} {first : List Value} {pos : Pos} {Q : Value → Shared → Prop} {args : List (Bool × Sem Value)} {kws : List (Option Str × Sem Value)} (hst : (args.any (·.1) || kws.any (·.1.isNone)) = true)
    (hk : ∀ h, P h → ∃ k, (k = Keeper.frame ∨ k = Keeper.machine ∨ k = Keeper.boundFrame) ∧ Looks M h (keeperOf f) k)
    (h : wpAny M A (evalArgs f true args kws) (fun a s₁ => P s₁.heap ∧ wpAny M A (call f (first ++ a.pos) a.kw) Q E s₁) E s) : wpAny M A (callWith pos f first args kws) Q E s := by
  unfold callWith
  refine wpAny_bind (wpAny_holding (wpAny_mono h (fun a s₁ h₁ => wpAny_bind (wpAny_standAt ?_)) fun _ _ x => x))
  obtain ⟨k, hk', L⟩ := hk _ h₁.1
  simp only [hst]
  refine wpAny_bind (L.here ?_)
  have tail : ∀ {t : Sem Value}, wpAny M A t Q E s₁ → wpAny M A (t >>= fun r => holding [r] point >>= fun _ => pure r) Q E s₁ :=
    fun ht => wpAny_bind (wpAny_mono ht (fun r s₂ hr => wpAny_bind (wpAny_holding (wpAny_point (wpAny_pure hr)))) fun _ _ x => x)
  have marked (mk : Value) : wpAny M A (callMarked mk f (first ++ a.pos) a.kw) Q E s₁ := by unfold callMarked; exact Calls.wpAny_keep h₁.2
  rcases hk' with rfl | rfl | rfl <;> dsimp only <;> first | exact tail (marked _) | exact tail (wpAny_operating h₁.2)
theorem wpAt_CallK {o : Expr} {name : Str} {apos pos : Pos} {args : List Expr} {kws : List Keyword} {Q : Value → Shared → Prop}
    (h : PySem.wpAt M A c (attributeBase o name env (eval o env)) (fun ov s₁ => wpAny M A (getAttr ov name true) (fun f s₂ => wpAny M A (callWith pos f [] (backTo pos (starEach args env)) (backToKw pos (keywordEach kws env))) Q E s₂) E s₁) E s)
    (hm : methodCallForm (args.length + kws.length) (backTo pos (starEach args env)) (backToKw pos (keywordEach kws env)) = false := by rfl) :
    PySem.wpAt M A c (eval (.Call (.Attribute o name apos) args kws pos) env) Q E s := by
  rw [arm_eval_Call]
  refine PySem.wpAt_bind (ks_wpAt_mono h (fun ov s₁ h₁ => PySem.wpAt_of_wpAny (wpAny_bind (wpAny_standAt ?_))) fun _ _ x => x)
  unfold methodCall
  rw [hm]
  refine wpAny_bind (wpAny_holding (wpAny_bind (wpAny_mono h₁ (fun f s₂ h₂ => wpAny_pure ?_) fun _ _ x => x)))
  exact wpAny_bind (wpAny_pure h₂)
end
section
variable {prog : Program} {w : World} {A : Around} {s : Shared} {env : Env} {g : Heap} {L : Addr} {m : Str → Option Value} {news : List (Addr × Obj)} {R : Result → Shared → Prop}
theorem enterSup1 {name qual : Str} {params : Arguments} {body : List Stmt} {scope : Scope} {cl : List (Str × Addr)} {dV kV doc pm cdv ct oc : Value} {an od : Option Addr} {osl : Array (Option Value)} {f : Addr} {args : Args} {nm : Str} {ex front : List (Str × Value)} {g₁ : Addr → Sem (List (Str × Value))}
    (G : Gd w A env g L) (F : Fr g L s.heap m) (N : News g L s.heap news)
    (ho : (hd.heap_39 w.params).lookup f = some ⟨oc, od, .func (fnX name qual params body scope cl dV kV doc pm an cdv ct), osl⟩) (hcd : codeIn (hd.heap_39 w.params) cdv qual = true)
    (hroom : A.depth < recursionLimit) (hn : kwDistinct ex = true)
    (hp : peekA (hd.heap_39 w.params) ⟨prog, w.params⟩ (bindArgs (fnX name qual params body scope cl dV kV doc pm an cdv ct) args) = some (dictOf [] 0, g₁))
    (hk₁ : ∀ D, g₁ D = (forIn ex PUnit.unit (fun x _ => (nsSet D x.1 x.2 >>= fun _ => pure (ForInStep.yield PUnit.unit))) >>= fun _ => pure (front ++ [(nm, Value.ref D)])))
    (hloc : ∀ D, ∀ y ∈ front ++ [(nm, Value.ref D)], scope.names.lookup y.1 = some .local)
    (h : ∀ D tk0 g' L' h₁ tk, Gd w (A.deeper (envX qual scope L' f cdv cl)) (envX qual scope L' f cdv cl) g' L' → (∀ p ∈ news, p.1 < D) → (D == sysModules) = false → Fr g' L' h₁ (fun y => (front ++ [(nm, Value.ref D)]).reverse.lookup y) →
      News g' L' h₁ ((D, dictOf (kwEs w.params tk0 ex) (0 + ex.length)) :: news) →
      PySem.wpAt (model prog w) (A.deeper (envX qual scope L' f cdv cl)) (.func body (envX qual scope L' f cdv cl)) (execs body (envX qual scope L' f cdv cl))
        (fun fl s' => LeaveK g L m g' R (match fl with | .ret v => v | _ => .none) s') NoE { s with heap := h₁, toks := tk })
    (hcell : ∀ x ∈ scope.names, x.2 ≠ .cell) (hco : scope.isCoroutine = false) (hgen : scope.isGenerator = false) (hk : scope.kind = .function) : codeAny (model prog w) A (.call (.ref f) args) R s := by
  have hn' := kwDistinct_nodup hn
  have hlim : Heap.NoLimit g := by obtain ⟨_, ⟨p, loose, mean, mg, mb, T⟩, _⟩ := G; exact T.nolimit
  refine codeAny_call_function (fd := fnX name qual params body scope cl dV kV doc pm an cdv ct) (body := body) hroom ((G.X.keeps F.keep) _ _ ho) rfl hco hgen rfl (codeRec_of (G.X.keeps F.keep) hcd) ?_
  refine wp_of_peekA (o := dictOf [] 0) F N (G.X.keeps F.keep) rfl _ g₁ hp fun h' F' N' l => ?_
  rw [hk₁]
  refine wpAny_bind (kp_fill ex { s with heap := h' } [] 0 F' N' (fun p hp => Nat.ne_of_lt (l p hp)) (fun _ he => nomatch he) (fun _ he => nomatch he) hn' fun h₃ F₃ N₃ => wpAny_pure ?_)
  exact frameAt (s := { s with heap := h₃, toks := s.toks + ex.length }) G F₃ N₃ (hloc _) (fun g' L' h₁ G' keep F4 N4 lt => h _ _ g' L' h₁ _ G' l (F.notModules (modules_low hlim)) F4 N4) hcell hk
theorem super_attr {E : Value → Shared → Prop} {x C D f2 so : Addr} {ox : Obj} {odx : Option Obj} {name : Str} {expr : Bool} {Q : Value → Shared → Prop} (F : Fr g L s.heap m) (X₀ : (hd.heap_39 w.params).In g) (N : News g L s.heap news) (hso : (so, ks_superObj D x C) ∈ news) (I : InstAt s.heap x ox C odx) (ho : nsIn (hd.heap_39 w.params) cStatics "thirdparty.any" = some none)
    (hm : ks_superIn (hd.heap_39 w.params) C D name = some (some (.ref f2))) (ht : typeIn (hd.heap_39 w.params) (.ref f2) = some (.type "function")) (hn : (name == ("__class__" : Str)) = false)
    (h : ∀ q h', Fr g L h' m → News g L h' ((q, methodObj (.ref f2) (.ref x)) :: news) → (∀ p ∈ news, p.1 < q) → Q (.ref q) { s with heap := h', toks := s.toks + 1 }) : wpAny (model prog w) A (getAttr (.ref so) name expr) Q E s := by
  have X : (hd.heap_39 w.params).In s.heap := X₀.keeps F.keep
  obtain ⟨hh, gg, d, t, os⟩ := s
  cases hc : clsIn (hd.heap_39 w.params) C with
  | none => unfold ks_superIn at hm; rw [hc] at hm; cases hm
  | some cd =>
    unfold ks_superIn at hm
    rw [hc] at hm
    obtain ⟨of, hof, hofc⟩ : ∃ of, hh.get? f2 = some of ∧ of.cls = .type "function" := by
      have ht' : ((hd.heap_39 w.params).lookup f2).map (·.cls) = some (.type "function") := ht
      cases z : (hd.heap_39 w.params).lookup f2 with
      | none => rw [z] at ht'; cases ht'
      | some of => rw [z] at ht'; exact ⟨of, X _ _ z, Option.some.inj ht'⟩
    have hlk := PySem.F.ks_slot_super_ga.lookup
    have hsoh := (N _ hso).1
    have hT : ∀ t', (⟨hh, gg, d, t', os⟩ : Shared).TypeIs (.ref so) "super" := fun _ => ⟨_, hsoh, rfl⟩
    unfold getAttr getAttrBy
    refine wpAny_bind (wpAny_mkText (wpAny_holding (wpAny_bind (wpAny_typeOf (hT _) (wpAny_bind (wpAny_of_eq hlk ?_))))))
    show wpAny _ _ (getAttrByItsOwn (.ref so) (.str name t) (.type "super") (.builtin "super.__getattribute__") true expr) _ _ _
    unfold getAttrByItsOwn hookBefore callGetattribute boundAndCalled
    refine wpAny_bind (wpAny_of_eq (show (if onTheHeap (.type "super") then typeLookup (.type "super") "__getattr__" else pure none) = pure none from rfl) ?_)
    refine wpAny_bind (wpAny_attempt (wpAny_holding ?_))
    rw [show (expr && onTheHeap (Value.builtin "super.__getattribute__")) = false from Bool.and_false _, if_neg (by decide)]
    refine wpAny_bind (wpAny_of_eq (PySem.F.ks_slot_super_ga.bind _) ?_)
    have hmro : Looks (model prog w) hh (mroOf (.ref C)) cd.mro := fun A Q E s k q => wpAny_bind ((looks_clsIn X hc) A _ E s k (wpAny_pure q))
    refine wpAny_mono (Q := fun v s' => v = .ref hh.objs.size ∧ s' = ⟨hh.push { cls := .type "method", data := .fields #[.ref f2, .ref x] }, gg, d, t + 1, os⟩) (E := fun _ _ => False)
      (wpAny_call_entry PySem.F.ks_slot_super_ga (hT _) PySem.F.ks_entry_super_ga (ks_wpAny_super_ga hsoh (looks_opaque X ho) hmro rfl X hm hof hofc (ks_ne X I hc) hn ⟨_, rfl, rfl, rfl⟩) (PySem.F.ks_gaArgs_super _ _)) (fun v s' hv => ?_) fun _ _ z => z.elim
    obtain ⟨rfl, rfl⟩ := hv
    obtain ⟨F', N', l'⟩ := ks_newsPush (s := ⟨hh, gg, d, t, os⟩) (o := methodObj (.ref f2) (.ref x)) F N rfl (Heap.get?_push_at rfl rfl) (fun b o e => Heap.get?_push_of_some _ e)
    exact wpAny_pure (h _ _ F' N' l')
theorem look_init {x dx : Addr} {nm : List Nat} {t : Tok} {b : Bool} {v1 : Value} (po : ProgOk prog) (G : Gd w A env g L) (F : Fr g L s.heap m) (N : News g L s.heap news) (hdep : A.depth + 2 < recursionLimit)
    (hx : (x, ⟨.ref 458, some dx, .plain, #[]⟩) ∈ news) (hdx : (dx, emptyDict) ∈ news)
    (h : ∀ h' tk n' it mt, Fr g L h' m → News g L h' n' → (∀ q ∈ news, q.1 ≠ x → q ∈ n') → (x, ⟨.ref 458, some dx, .plain, #[some (.bool b), some (.ref mt), some (.ref it), some (.str (S nm) t)]⟩) ∈ n' → (mt, tupO [v1]) ∈ n' → R (.ok (.ret .none)) { s with heap := h', toks := tk }) :
    codeAny (model prog w) A (.call (.ref 440) ⟨[.ref x, v1], [(("negative" : Str), Value.bool b), (("name" : Str), Value.str (S nm) t)]⟩) R s := by
  obtain ⟨h', gn, dr, tk0, os0⟩ := s
  refine' enterSup1 (ex := [(("name" : Str), Value.str (S nm) t)]) (front := [(("self" : Str), Value.ref x), ("member", v1), ("negative", .bool b)]) (nm := "kwargs") G F N ?k6 ?k7 ?k8 ?kN ?kP ?kT ?kB (fun kd tk1 g' L' h' tk G' l1 lo F N => ?_) ?c5 ?c2 ?c3 ?c4
  case k6 => k_is
  case k7 => k_is
  case k8 => omega
  case kN => rfl
  case kP => exact rfl
  case kT => exact fun _ => rfl
  case kB => exact fun _ => locs rfl
  case c5 => decide
  case c2 => exact rfl
  case c3 => exact rfl
  case c4 => exact rfl
  have ⟨X, ⟨p', loose, mean, mg, mb, T⟩, _, _, _⟩ := G'
  have hxd : dx ≠ x := fun q => by
    have := News.uniq N (q ▸ (.tail _ hdx) : (x, emptyDict) ∈ _) (.tail _ hx)
    have := congrArg Obj.cls this
    cases this
  refine ks_wpAt_execs_cons (ks_wpAt_Expr_any (wpAt_CallK ?_))
  refine ks_node F X N T (by k_is) (by rfl) (by rfl) (inst_of N (.tail _ hx) (.tail _ hdx)) (by k_is) (by rfl) po.1 (by k_is) (by k_is) (by k_is) (by k_is) (by decide) (by rfl) (by rfl) (by rfl) (by rfl) po.2 (by first | boot_by_name | rfl | kernel_rfl) (fun so h' F N lso => ?_)
  refine super_attr F X N (.head _) (inst_of N (.tail _ (.tail _ hx)) (.tail _ (.tail _ hdx))) (by k_is) (f2 := 356) (by ks_is) (by k_is) (by decide) (fun q h' F N lq => ?_)
  have hkd : (kd, dictOf [⟨PyData.keyHash w.params "name", .str "name" tk1, .str (S nm) t⟩] 1) ∈ (q, methodObj (.ref 356) (.ref x)) :: (so, ks_superObj 458 x 458) :: (kd, dictOf (kwEs w.params tk1 [(("name" : Str), Value.str (S nm) t)]) (0 + [(("name" : Str), Value.str (S nm) t)].length)) :: news := .tail _ (.tail _ (.head _))
  refine callkk (P := MethP (hd.heap_39 w.params) q 356 (.ref x)) rfl (keeps_M (by k_is)) (evalArgs_kk2 ?_)
  refine args_cons ?_
  refine nameX_L F (by rfl) ?_ (by rfl) (by rfl)
  refine args_nil ?_
  refine nrm (h := h') (gn := gn) (dr := dr) (os := os0) rfl rfl rfl rfl fun tkk => ?_
  refine merged_one F N (fun h' P F hP => wpAny_bind (nameX_L F (by rfl) (wpAny_bind (wpAny_standAt (wpAny_pure hP))) (by rfl) (by rfl))) hkd lo rfl (fun h' d F N => ?_)
  refine keywords_one N (.head _) ?_
  refine ⟨methP N (.tail _ (.head _)) (X.keeps F.keep), call_meth N (.tail _ (.head _)) ?_⟩
  refine comp_init (v1 := v1) (v2 := v1) (v3 := v1) po (.inl rfl) (.inr (.inr rfl)) G' F N (by rw [depth_deeper]; omega) (.tail _ (.tail _ (.tail _ (.tail _ hx)))) (.tail _ (.tail _ (.tail _ (.tail _ hdx)))) (fun h' tk n1 it1 mt F N sub1 hx1 hmt => ?_)
  have hdx1 := sub1 _ (.tail _ (.tail _ (.tail _ (.tail _ hdx)))) hxd
  have N0 := N
  refine PySem.wpAt_of_wpAny ?_
  repeat kp_kind "s"
  first | with_reducible refine PyProof.Rows.callWith_type1 ?_ | refine PyProof.Rows.callWith_type1 ?_
  repeat kp_kind "s"
  refine PySem.call_bool_bool ?_
  repeat kp_kind "s"
  have hx1 : (x, ⟨.ref 458, some dx, .plain, #[none, some (.ref mt), some (.ref it1), some (.str (S nm) t)]⟩) ∈ n1 := hx1
  refine r_setSlot (sl' := #[some (.bool b), some (.ref mt), some (.ref it1), some (.str (S nm) t)]) F X N hx1 hdx1 (by k_is) (by k_is) (by k_is) (by k_is) (by k_is) (by decide) (by rfl) (fun h' F N => ?_)
  repeat kp_kind "s"
  kp_kind "k"
  refine h _ _ _ it1 mt F N (fun q hq hn => put_ne (sub1 _ (.tail _ (.tail _ (.tail _ (.tail _ hq)))) hn) hn) (put_self hx1) (put_ne hmt fun q => ?_)
  have := News.uniq N0 (q ▸ hmt : (x, tupO [v1]) ∈ n1) hx1
  have := congrArg Obj.cls this
  simp at this
end
end Vy
end
section
open PyProof.V PyProof.Rows.LCg PySem.Builtin
namespace Vy
section
variable {prog : Program} {w : World} {A : Around} {s : Shared} {env : Env} {g : Heap} {L : Addr} {m : Str → Option Value} {news : List (Addr × Obj)} {R : Result → Shared → Prop}
theorem mk_lit {nm word : List Nat} {t tw : Tok} {kw : List (Str × Value)} (po : ProgOk prog) (hkw : kw = [(("name" : Str), Value.str (S nm) t)] ∨ (kw = [] ∧ nm = [])) (G : Gd w A env g L) (F : Fr g L s.heap m) (N : News g L s.heap news) (hdep : A.depth + 4 < recursionLimit)
    (h : ∀ x dx h' tk n' it t, Fr g L h' m → News g L h' n' → (∀ q ∈ news, q ∈ n') → (∀ q ∈ news, q.1 ≠ x ∧ q.1 ≠ dx) → (x, ⟨.ref 336, some dx, .plain, #[some (.str (S word) tw), some (.ref it), some (.str (S nm) t)]⟩) ∈ n' → (dx, dictOf [] 0) ∈ n' → R (.ok (.ret (.ref x))) { s with heap := h', toks := tk }) :
    codeAny (model prog w) A (.call (.ref 336) ⟨[.str (S word) tw], kw⟩) R s := by
  obtain ⟨h', gn, dr, tk0, os0⟩ := s
  refine make_K (fI := 318) F N (G.X.keeps F.keep) (by k_is) (by k_is) (by k_is) (fun x dx h' F N l1 l2 => ?_)
  have G1 := G.under "type.__call__" ⟨.ref 336 :: [.str (S word) tw], kw⟩
  have hne : ∀ q ∈ news, q.1 ≠ x ∧ q.1 ≠ dx := fun q hq => ⟨Nat.ne_of_lt (Nat.lt_trans (l1 q hq) l2), Nat.ne_of_lt (l1 q hq)⟩
  refine lit_init po hkw G1 F N (by show A.depth + 1 + 1 < _; omega) (.head _) (.tail _ (.head _)) (fun h' tk n' it t F N sub hx => ⟨rfl, ?_⟩)
  exact h x dx _ _ n' it t F N (fun q hq => sub _ (.tail _ (.tail _ hq)) (hne q hq).1) hne hx (sub _ (.tail _ (.head _)) (Nat.ne_of_lt l2))
theorem mk_comp {C : Addr} {nm : List Nat} {t : Tok} {vals : List Value} {v1 v2 v3 : Value} (po : ProgOk prog) (hv : vals = [v1] ∨ vals = [v1, v2] ∨ vals = [v1, v2, v3]) (hC : C = 394 ∨ C = 420) (G : Gd w A env g L) (F : Fr g L s.heap m) (N : News g L s.heap news) (hdep : A.depth + 4 < recursionLimit)
    (h : ∀ x dx h' tk n' it mt, Fr g L h' m → News g L h' n' → (∀ q ∈ news, q ∈ n') → (∀ q ∈ news, q.1 ≠ x ∧ q.1 ≠ dx) → (x, ⟨.ref C, some dx, .plain, #[some (.ref mt), some (.ref it), some (.str (S nm) t)]⟩) ∈ n' → (mt, tupO vals) ∈ n' → (dx, dictOf [] 0) ∈ n' → R (.ok (.ret (.ref x))) { s with heap := h', toks := tk }) :
    codeAny (model prog w) A (.call (.ref C) ⟨vals, [(("name" : Str), Value.str (S nm) t)]⟩) R s := by
  obtain ⟨h', gn, dr, tk0, os0⟩ := s
  rcases hC with rfl | rfl
  all_goals
    refine make_K (fI := 356) F N (G.X.keeps F.keep) (by k_is) (by k_is) (by k_is) (fun x dx h' F N l1 l2 => ?_)
    have hne : ∀ q ∈ news, q.1 ≠ x ∧ q.1 ≠ dx := fun q hq => ⟨Nat.ne_of_lt (Nat.lt_trans (l1 q hq) l2), Nat.ne_of_lt (l1 q hq)⟩
    refine comp_init po hv (by first | exact .inl rfl | exact .inr (.inl rfl)) (G.under _ _) F N (by show A.depth + 1 + 1 < _; omega) (.head _) (.tail _ (.head _)) (fun h' tk n' it mt F N sub hx hmt => ⟨rfl, ?_⟩)
    exact h x dx _ _ n' it mt F N (fun q hq => sub _ (.tail _ (.tail _ hq)) (hne q hq).1) hne hx hmt (sub _ (.tail _ (.head _)) (Nat.ne_of_lt l2))
theorem mk_look {nm : List Nat} {t : Tok} {b : Bool} {v1 : Value} (po : ProgOk prog) (G : Gd w A env g L) (F : Fr g L s.heap m) (N : News g L s.heap news) (hdep : A.depth + 5 < recursionLimit)
    (h : ∀ x dx h' tk n' it mt, Fr g L h' m → News g L h' n' → (∀ q ∈ news, q ∈ n') → (∀ q ∈ news, q.1 ≠ x ∧ q.1 ≠ dx) → (x, ⟨.ref 458, some dx, .plain, #[some (.bool b), some (.ref mt), some (.ref it), some (.str (S nm) t)]⟩) ∈ n' → (mt, tupO [v1]) ∈ n' → (dx, dictOf [] 0) ∈ n' → R (.ok (.ret (.ref x))) { s with heap := h', toks := tk }) :
    codeAny (model prog w) A (.call (.ref 458) ⟨[v1], [(("negative" : Str), Value.bool b), (("name" : Str), Value.str (S nm) t)]⟩) R s := by
  obtain ⟨h', gn, dr, tk0, os0⟩ := s
  refine make_K (fI := 440) F N (G.X.keeps F.keep) (by k_is) (by k_is) (by k_is) (fun x dx h' F N l1 l2 => ?_)
  have hne : ∀ q ∈ news, q.1 ≠ x ∧ q.1 ≠ dx := fun q hq => ⟨Nat.ne_of_lt (Nat.lt_trans (l1 q hq) l2), Nat.ne_of_lt (l1 q hq)⟩
  refine look_init po (G.under _ _) F N (by show A.depth + 1 + 2 < _; omega) (.head _) (.tail _ (.head _)) (fun h' tk n' it mt F N sub hx hmt => ⟨rfl, ?_⟩)
  exact h x dx _ _ n' it mt F N (fun q hq => sub _ (.tail _ (.tail _ hq)) (hne q hq).1) hne hx hmt (sub _ (.tail _ (.head _)) (Nat.ne_of_lt l2))
/-- what has been made -/
structure MAt (y : Mx) (n : Led) : Prop where
  la : y.ads.length = y.exs.length
  ld : y.dxs.length = y.exs.length
  ex : ∀ j r, y.exs[j]? = some r → EAt n y j r ∧ (y.dxs.getD j 0, dictOf [] 0) ∈ n
  nd : y.dxs.Nodup
theorem MAt.off {y : Mx} {n n' : Led} (h : MAt y n) (kp : ∀ p ∈ n, gd p.2 → p ∈ n') : MAt y n' :=
  ⟨h.la, h.ld, fun j r e => ⟨(h.ex j r e).1.off kp, kp _ (h.ex j r e).2 (gd_d rfl)⟩, h.nd⟩
def Mx.snoc (y : Mx) (r : Row) (x dx : Addr) : Mx := { y with exs := y.exs ++ [r], ads := y.ads ++ [x], dxs := y.dxs ++ [dx] }
theorem getD_snoc {l : List Addr} {a : Addr} {j : Nat} (h : j < l.length) : (l ++ [a]).getD j 0 = l.getD j 0 := by
  rw [List.getD_eq_getElem?_getD, List.getD_eq_getElem?_getD, List.getElem?_append_left h]
theorem getD_last {l : List Addr} {a : Addr} {j : Nat} (h : j = l.length) : (l ++ [a]).getD j 0 = a := by
  subst h
  rw [List.getD_eq_getElem?_getD, List.getElem?_append_right (Nat.le_refl _), Nat.sub_self]; rfl
theorem MAt.snoc {y : Mx} {n n' : Led} {r : Row} {x dx : Addr} {o : Obj} (h : MAt y n) (wf : WF y.exs) (sub : ∀ q ∈ n, q ∈ n') (hx : (x, o) ∈ n') (ho : ExObj n' (y.ads ++ [x]) y.exs.length dx r o) (hd : (dx, dictOf [] 0) ∈ n') (hne : ∀ q ∈ n, q.1 ≠ dx) : MAt (y.snoc r x dx) n' := by
  refine ⟨by show (y.ads ++ [x]).length = (y.exs ++ [r]).length; simp [h.la], by show (y.dxs ++ [dx]).length = (y.exs ++ [r]).length; simp [h.ld], fun j r2 e => ?_, ?_⟩
  · have e : (y.exs ++ [r])[j]? = some r2 := e
    rcases Nat.lt_trichotomy j y.exs.length with l | l | l
    · rw [List.getElem?_append_left l] at e
      obtain ⟨⟨o2, m1, h2⟩, md⟩ := h.ex j r2 e
      have hk := wf j r2 e
      have ka : ∀ i ∈ r2.kids, (y.ads ++ [x]).getD i 0 = y.ads.getD i 0 := fun i hi => getD_snoc (by rw [h.la]; exact Nat.lt_trans (hk i hi) l)
      have kt : ∀ a vs, (a, tupO vs) ∈ n → (a, tupO vs) ∈ n' := fun a vs q => sub _ q
      refine ⟨⟨o2, by show ((y.ads ++ [x]).getD j 0, o2) ∈ n'; rw [getD_snoc (by rw [h.la]; exact l)]; exact sub _ m1, ?_⟩, by show ((y.dxs ++ [dx]).getD j 0, _) ∈ n'; rw [getD_snoc (by rw [h.ld]; exact l)]; exact sub _ md⟩
      show ExObj n' (y.ads ++ [x]) j ((y.dxs ++ [dx]).getD j 0) r2 o2
      rw [getD_snoc (l := y.dxs) (by rw [h.ld]; exact l)]
      cases r2 with
      | word z => exact h2
      | all ks =>
        obtain ⟨t2, it, mt, rfl, hm⟩ := h2
        refine ⟨t2, it, mt, rfl, ?_⟩
        rw [show (ks.map fun i => Value.ref ((y.ads ++ [x]).getD i 0)) = ks.map fun i => Value.ref (y.ads.getD i 0) from List.map_congr_left fun i hi => by rw [ka i hi]]
        exact kt _ _ hm
      | any ks =>
        obtain ⟨t2, it, mt, rfl, hm⟩ := h2
        refine ⟨t2, it, mt, rfl, ?_⟩
        rw [show (ks.map fun i => Value.ref ((y.ads ++ [x]).getD i 0)) = ks.map fun i => Value.ref (y.ads.getD i 0) from List.map_congr_left fun i hi => by rw [ka i hi]]
        exact kt _ _ hm
      | neg i =>
        obtain ⟨t2, it, mt, rfl, hm⟩ := h2
        exact ⟨t2, it, mt, rfl, by rw [ka i (.head _)]; exact kt _ _ hm⟩
      | look i =>
        obtain ⟨t2, it, mt, rfl, hm⟩ := h2
        exact ⟨t2, it, mt, rfl, by rw [ka i (.head _)]; exact kt _ _ hm⟩
    · subst l
      rw [List.getElem?_append_right (Nat.le_refl _), Nat.sub_self] at e
      cases e
      refine ⟨⟨o, by show ((y.ads ++ [x]).getD y.exs.length 0, o) ∈ n'; rw [getD_last h.la.symm]; exact hx, ?_⟩, by show ((y.dxs ++ [dx]).getD y.exs.length 0, _) ∈ n'; rw [getD_last h.ld.symm]; exact hd⟩
      show ExObj n' (y.ads ++ [x]) y.exs.length ((y.dxs ++ [dx]).getD y.exs.length 0) r o
      rw [getD_last h.ld.symm]
      exact ho
    · rw [List.getElem?_eq_none (by simp; omega)] at e; cases e
  · show (y.dxs ++ [dx]).Nodup
    rw [List.nodup_append]
    refine ⟨h.nd, by simp, fun a ha b hb => ?_⟩
    simp at hb
    subst hb
    obtain ⟨j, hj, e⟩ := List.getElem_of_mem ha
    have hj' : j < y.exs.length := h.ld ▸ hj
    have md := (h.ex j _ (List.getElem?_eq_getElem hj')).2
    rw [List.getD_eq_getElem?_getD, List.getElem?_eq_getElem hj] at md
    have md : (y.dxs[j], _) ∈ n := md
    rw [e] at md
    exact hne _ md
end
end Vy
end
section
open PyProof.V PyProof.Rows.LCg
namespace Vy
section
variable {prog : Program} {w : World} {A : Around} {env : Env} {g : Heap} {m : Str → Option Value} {news : Led} {R : Result → Shared → Prop}
variable {hs : Heap} {gn : Array GenState} {dr : Drawn} {tk : Nat} {os : OsState}
/-- a loop over a range -/
theorem r_iterRange {x : Str} {px : Pos} {body orelse : List Stmt} {r : Addr} {a b c : Int} {t u v : Tok} {n : Nat} {E : Value → Shared → Prop}
    (hh : A.handled = none) (hx : env.kindOf x = some .local) (hp : (env.scope.kind == .class || (env.scope.kind == .module && env.locals != env.globals)) = false)
    (F : Fr g env.locals hs m) (N : News g env.locals hs news) (hr : IsRange hs r a b c t u v) (hsm : Builtin.Range.small a b c = true) (hn : Builtin.Range.rangeSize a b c = (n : Int))
    (J : Addr → Nat → (Str → Option Value) → Led → Prop) (Jm : ∀ I i m n n', (∀ p ∈ news, p.1 ≠ I) → Off [I] n n' → J I i m n → J I i m n') (h0 : ∀ I, (∀ p ∈ news, p.1 ≠ I) → J I 0 m news)
    (turn : ∀ I i tv m₁ news₁ h₁ tk₁ it, (∀ p ∈ news, p.1 ≠ I) → i < n → J I i m₁ news₁ → (I, it) ∈ news₁ → it.cls = .type "range_iterator" →
      Fr g env.locals h₁ (fun y => if y = x then some (.int (a + i * c) tv) else m₁ y) → News g env.locals h₁ news₁ →
      wpAny (model prog w) A (execs body env) (fun f s₃ => match f with
        | .next | .cont => ∃ h₂ tk₂ m₂ news₂, s₃ = ⟨h₂, gn, dr, tk₂, os⟩ ∧ Fr g env.locals h₂ m₂ ∧ News g env.locals h₂ news₂ ∧ (I, it) ∈ news₂ ∧ J I (i + 1) m₂ news₂
        | .brk => R (.ok .next) s₃
        | .ret v => R (.ok (.ret v)) s₃) NoE ⟨h₁, gn, dr, tk₁, os⟩)
    (done : ∀ I m₁ news₁ h₁ tk₁, (∀ p ∈ news, p.1 ≠ I) → J I n m₁ news₁ → Fr g env.locals h₁ m₁ → News g env.locals h₁ news₁ → wpAny (model prog w) A (execs orelse env) (fun f s₃ => R (.ok f) s₃) NoE ⟨h₁, gn, dr, tk₁, os⟩) :
    wpAny (model prog w) A (pyIter (.ref r)) (fun it s₂ => codeAny (model prog w) A (.forLoop (.Name x px) it body orelse env) R s₂) E ⟨hs, gn, dr, tk, os⟩ := by
  refine wpAny_pyIter_range hr hsm ?_
  have hlt : ∀ p ∈ news, p.1 ≠ hs.objs.size := fun p hp => Nat.ne_of_lt (Heap.lt_size (N p hp).1)
  have hIg : g.get? hs.objs.size = none := by
    cases q : g.get? hs.objs.size with
    | none => rfl
    | some o => exact absurd (Heap.lt_size (F.keep _ _ q)) (Nat.lt_irrefl _)
  have hIL : env.locals ≠ hs.objs.size := by
    obtain ⟨oL, _, _, hL, _⟩ := F.ns
    exact Nat.ne_of_lt (Heap.lt_size hL)
  let it0 : Obj := { cls := .type "range_iterator", data := .fields #[rawInt a, rawInt (Builtin.Range.rangeSize a b c), rawInt c] }
  have N2 : News g env.locals (hs.push it0) ((hs.objs.size, it0) :: news) := N.push F it0
  have st0 : IsRangeIter (hs.push it0) hs.objs.size (a + (0 : Nat) * c) ((n : Int) - (0 : Nat)) c := by
    have e1 : a + ((0 : Nat) : Int) * c = a := by simp
    have e2 : (n : Int) - ((0 : Nat) : Int) = Builtin.Range.rangeSize a b c := by rw [hn]; simp
    rw [e1, e2]
    exact Heap.get?_push_size _ rfl
  refine r_loop (W := Walks.range hh hs.objs.size a c n) hx hp (by simp [hIL]) (by simpa using hIg)
    (fun b hb i h st => ?_) st0 (F.push _) N2 (fun i m n => J hs.objs.size i m n)
    (fun i m n n' hO hJ => Jm _ _ _ _ _ hlt hO hJ)
    (Jm _ _ _ _ _ hlt (fun p hp _ => .tail _ hp) (h0 _ hlt)) ?_ ?_
  · simp only [List.mem_singleton] at hb
    subst hb
    exact ⟨_, st, fun q => q.2.1 rfl⟩
  · intro i v m₁ news₁ h₁ tk₁ own hi hP hJ hsub hown hall hst F₁ N₁
    obtain ⟨oI, hoI, hcI⟩ : ∃ o, h₁.get? hs.objs.size = some o ∧ o.cls = .type "range_iterator" := ⟨_, hst, rfl⟩
    have mI := hall hs.objs.size (by simp) hIg _ hoI
    obtain ⟨tv, rfl⟩ := hP
    refine wpAny_mono (turn hs.objs.size i tv m₁ news₁ h₁ tk₁ oI hlt hi hJ (hown _ mI) hcI F₁ N₁) (fun f s₃ h₃ => ?_) fun _ _ e => e
    have fin : (∃ h₂ tk₂ m₂ news₂, s₃ = ⟨h₂, gn, dr, tk₂, os⟩ ∧ Fr g env.locals h₂ m₂ ∧ News g env.locals h₂ news₂ ∧ (hs.objs.size, oI) ∈ news₂ ∧ J hs.objs.size (i + 1) m₂ news₂) →
        ∃ h₂ tk₂ m₂ news₂, s₃ = ⟨h₂, gn, dr, tk₂, os⟩ ∧ Fr g env.locals h₂ m₂ ∧ News g env.locals h₂ news₂ ∧ (∀ p ∈ own, p ∈ news₂) ∧ J hs.objs.size (i + 1) m₂ news₂ := by
      rintro ⟨h₂, tk₂, m₂, news₂, e, F₂, N₂, mI₂, hJ₂⟩
      refine ⟨h₂, tk₂, m₂, news₂, e, F₂, N₂, fun p hp => ?_, hJ₂⟩
      have e1 := (N₁ _ (hown p hp)).1
      have q : p.1 = hs.objs.size := by simpa using hsub p hp
      rw [q, hoI] at e1
      have : p = (hs.objs.size, oI) := Prod.ext q (Option.some.inj e1).symm
      exact this ▸ mI₂
    cases f with
    | next => exact fin h₃
    | cont => exact fin h₃
    | brk => exact h₃
    | ret v => exact h₃
  · intro m₁ news₁ h₁ tk₁ hJ F₁ N₁
    exact done _ m₁ news₁ h₁ tk₁ hlt hJ F₁ N₁
end
end Vy
end
section
open PyProof.V PyProof.Rows.LCg PySem.Builtin
namespace Vy
section
variable {prog : Program} {w : World} {A : Around} {E : Value → Shared → Prop} {s : Shared} {g : Heap} {L : Addr} {m : Str → Option Value} {news : List (Addr × Obj)}
theorem pctN {k : Nat} {tt u : Tok} {Q : Value → Shared → Prop} (hk : k < 8) (h : ∀ t' j, Q (.str (S [110, 48 + k]) t') { s with toks := j }) : wpAny (model prog w) A (binaryOp .Mod (.str "n%d" tt) (.int (nI k) u)) Q E s := by
  rcases k with _ | _ | _ | _ | _ | _ | _ | _ | k
  iterate 8
    · refine' KPc.mod_lit ?kpcF ?kpcd ?kpcm ?_
      case kpcF => kpc_eq
      case kpcd => decide +kernel
      case kpcm => k_dflt kpc_run
      intro t' j
      exact h t' j
  omega
theorem pctH {k : Nat} {tt u : Tok} {Q : Value → Shared → Prop} (hk : k < 8) (ho : k % 2 = 1) (h : ∀ t' j, Q (.str (S [110, 48 + k, 32, 61, 32]) t') { s with toks := j }) : wpAny (model prog w) A (binaryOp .Mod (.str "n%d = " tt) (.int (nI k) u)) Q E s := by
  obtain rfl | rfl | rfl | rfl : k = 1 ∨ k = 3 ∨ k = 5 ∨ k = 7 := by omega
  iterate 4
    · refine' KPc.mod_lit ?kpcF ?kpcd ?kpcm ?_
      case kpcF => kpc_eq
      case kpcd => decide +kernel
      case kpcm => k_dflt kpc_run
      intro t' j
      exact h t' j
end
end Vy
end
section
open PyProof.V PyProof.Rows.LCg PySem.Builtin
namespace Vy
def pickI (n : Nat) (z : Int) : Nat := (max (0 : Int) ((n : Int) - 1 - z.fmod 4)).toNat
def wd (ws : List (List Nat)) (z : Int) : List Nat := ws.getD (z.fmod 4).toNat []
def rowK (ws : List (List Nat)) (n : Nat) (kd : Nat) (b c : Int) : Row :=
  match kd with
  | 0 => .word (wd ws b ++ wd ws c)
  | 1 => .all [pickI n b, pickI n c]
  | 2 => .all [pickI n b, pickI n c, 1]
  | 3 => .any [pickI n b, pickI n c]
  | 4 => .any [1, pickI n b, pickI n c]
  | 5 => .neg (pickI n b)
  | _ => .look (pickI n b)
def newRow (ws : List (List Nat)) (n : Nat) (a b c : Int) : Row := rowK ws n (a.fmod 7).toNat b c
def madeR (ws : List (List Nat)) (sc : List Int) : Nat → List Row
  | 0 => [.word (ws.getD 0 []), .word (ws.getD 1 [])]
  | i + 1 => madeR ws sc i ++ [newRow ws (i + 2) (sc.getD (3 * i) 0) (sc.getD (3 * i + 1) 0) (sc.getD (3 * i + 2) 0)]
theorem madeR_len {ws : List (List Nat)} {sc : List Int} : ∀ i, (madeR ws sc i).length = i + 2
  | 0 => rfl
  | i + 1 => by unfold madeR; rw [List.length_append, madeR_len i]; rfl
theorem pickI_lt {n : Nat} {z : Int} (hn : 0 < n) : pickI n z < n := by
  unfold pickI
  have h1 : 0 ≤ z.fmod 4 := Int.fmod_nonneg_of_pos z (by decide)
  rcases Int.le_total 0 ((n : Int) - 1 - z.fmod 4) with h | h
  · rw [Int.max_eq_right h]; omega
  · rw [Int.max_eq_left h]; simpa using hn
theorem newRow_kids {ws : List (List Nat)} {n : Nat} {a b c : Int} (hn : 2 ≤ n) : ∀ k ∈ (newRow ws n a b c).kids, k < n := by
  have h1 := @pickI_lt n b (by omega)
  have h2 := @pickI_lt n c (by omega)
  unfold newRow rowK
  split <;> simp only [Row.kids] <;> simp <;> omega
theorem newRow_shaped {ws : List (List Nat)} {n : Nat} {a b c : Int} : Shaped (newRow ws n a b c) := by
  unfold newRow rowK
  split <;> simp [Shaped]
theorem madeR_wf {ws : List (List Nat)} {sc : List Int} : ∀ i, WF (madeR ws sc i)
  | 0 => by
    intro i r e k hk
    rcases i with _ | _ | i
    · cases e; cases hk
    · cases e; cases hk
    · cases e
  | i + 1 => (madeR_wf i).snoc (by rw [madeR_len]; exact newRow_kids (by omega))
theorem madeR_shaped {ws : List (List Nat)} {sc : List Int} : ∀ i, ∀ r ∈ madeR ws sc i, Shaped r
  | 0, r, h => by
    unfold madeR at h
    simp at h
    rcases h with rfl | rfl <;> trivial
  | i + 1, r, h => by
    unfold madeR at h
    rcases List.mem_append.mp h with h | h
    · exact madeR_shaped i r h
    · simp at h; subst h; exact newRow_shaped
section
variable {prog : Program} {w : World} {A : Around} {E : Value → Shared → Prop} {s : Shared} {g : Heap} {L : Addr} {m : Str → Option Value} {news : List (Addr × Obj)}
theorem r_max0 {b : Int} {t u : Tok} {Q : Value → Shared → Prop} (hh : A.handled = none) (F : Fr g L s.heap m) (N : News g L s.heap news)
    (h : ∀ h' tk v, Fr g L h' m → News g L h' news → Q (.int (max 0 b) v) { s with heap := h', toks := tk }) : wpAny (model prog w) A (call (.builtin "max") [.int 0 t, .int b u]) Q E s := by
  refine PySem.max_two_ints hh fun h' tk hk => ?_
  have F' := F.keeps hk
  have N' : News g L h' news := fun p hp => ⟨hk _ _ (N p hp).1, (N p hp).2⟩
  split
  · rename_i hb
    have := h h' tk u F' N'
    rwa [Int.max_eq_right (by omega)] at this
  · rename_i hb
    have := h h' tk t F' N'
    rwa [Int.max_eq_left (by omega)] at this
end
end Vy
end
section
open PyProof.V PyProof.Rows.LCg PySem.Builtin
namespace Vy
theorem small3 : ∀ n < 19, Builtin.Range.small 0 ((n : Nat) - 2 : Int) 3 = true ∧ Builtin.Range.rangeSize 0 ((n : Nat) - 2 : Int) 3 = ((n / 3 : Nat) : Int) := by decide +kernel
section
variable {prog : Program} {w : World} {A : Around} {s : Shared} {env : Env} {g : Heap} {L : Addr} {m : Str → Option Value} {news : List (Addr × Obj)} {R : Result → Shared → Prop}
theorem made_spec {ws : List (List Nat)} {sc : List Int} {wvs svs : List Value} {wl sl : Addr} {wc scn tn : Nat} (y0 : Mx) (po : ProgOk prog) (hlw : ws.length = 3) (hw : All2 (fun v x => ∃ t, v = Value.str (S x) t) wvs ws) (hwl : ∀ x ∈ ws, x.length ≤ 100) (hs : All2 (fun v z => ∃ t, v = Value.int z t) svs sc) (hT : tn = sc.length / 3) (hsl : sc.length ≤ 18)
    (G : Gd w A env g L) (F : Fr g L s.heap m) (N : News g L s.heap news) (hdep : A.depth + 10 < recursionLimit) (hhan : A.handled = none) (mw : (wl, listOf (List.toArray wvs) wc) ∈ news) (ms : (sl, listOf (List.toArray svs) scn) ∈ news)
    (h : ∀ D y cn0 h' tk n', Fr g L h' m → News g L h' n' → (∀ q ∈ news, q ∈ n') → y.exs = madeR ws sc tn → y.txt = y0.txt → MAt y n' → (D, listOf (List.toArray (y.ads.map .ref)) cn0) ∈ n' → R (.ok (.ret (.ref D))) { s with heap := h', toks := tk }) :
    codeAny (model prog w) A (.call (.ref 469) ⟨[.ref wl, .ref sl], []⟩) R s := by
  obtain ⟨h', gn, dr, tk0, os0⟩ := s
  refine enterN G F N (by k_is) (by k_is) (by omega) (binds := [("words", .ref wl), ("script", .ref sl)]) (BindsTo.of_eq rfl) (locs rfl) (fun g' L' h' G' keep F N lt => ?_) (by decide) rfl rfl rfl
  have ⟨X, ⟨p', loose, mean, mg, mb, T⟩, _, _, _⟩ := G'
  obtain ⟨w0, w1, w2, rfl⟩ : ∃ a b c, ws = [a, b, c] := by
    match ws, hlw with
    | [a, b, c], _ => exact ⟨a, b, c, rfl⟩
  obtain ⟨v0, hv0, tv0, rfl⟩ := hw.get 0 w0 rfl
  obtain ⟨v1, hv1, tv1, rfl⟩ := hw.get 1 w1 rfl
  repeat kp_kind "s"
  first | with_reducible refine r_itemD (k := 0) N mw (by decide) hv0 ?_ | refine r_itemD (k := 0) N mw (by decide) hv0 ?_
  repeat kp_kind "s"
  refine mk_lit (nm := []) (t := 0) po (.inr ⟨rfl, rfl⟩) G' F N (by rw [depth_deeper]; omega) (fun x0 dx0 h' tk n1 it0 t0 F N sub1 ne1 hx0 hd0 => ?_)
  repeat kp_kind "s"
  first | with_reducible refine call_KWn ?_ | refine call_KWn ?_
  repeat kp_kind "s"
  first | with_reducible refine callWith_KW X (by k_is) (by rfl) ?_ | refine callWith_KW X (by k_is) (by rfl) ?_
  repeat kp_kind "s"
  first | with_reducible refine r_itemD (k := 1) N (sub1 _ mw) (by decide) hv1 ?_ | refine r_itemD (k := 1) N (sub1 _ mw) (by decide) hv1 ?_
  repeat kp_kind "s"
  first | with_reducible refine kws_cons ?_ | refine kws_cons ?_
  repeat kp_kind "s"
  first | with_reducible refine kws_nil ?_ | refine kws_nil ?_
  repeat kp_kind "s"
  refine mk_lit (nm := nmT 1) po (.inl rfl) G' F N (by rw [depth_deeper]; omega) (fun x1 dx1 h' tk n2 it1 t1 F N sub2 ne2 hx1 hd1 => ?_)
  repeat kp_kind "s"
  refine r_newList F N (by show 2 ≤ sizeLine; decide) (fun D h' F N lD => ?_)
  repeat kp_kind "s"
  have mw2 := sub2 _ (sub1 _ mw)
  have ms2 := sub2 _ (sub1 _ ms)
  have hls := hs.length
  have hW0 : ∀ q ∈ news, q ∈ (D, listOf (List.toArray [Value.ref x0, .ref x1]) 0) :: n2 := fun q hq => .tail _ (sub2 _ (sub1 _ hq))
  first | with_reducible refine PyProof.Rows.callWith_type1 ?_ | refine PyProof.Rows.callWith_type1 ?_
  repeat kp_kind "s"
  first | with_reducible refine r_len N (.tail _ ms2) (by rw [List.size_toArray, hls, sizeLine_eq]; omega) ?_ | refine r_len N (.tail _ ms2) (by rw [List.size_toArray, hls, sizeLine_eq]; omega) ?_
  rw [List.size_toArray, hls]
  repeat kp_kind "s"
  first | with_reducible refine r_sub (c := (sc.length : Int) - 2) rfl ?_ | refine r_sub (c := (sc.length : Int) - 2) rfl ?_
  repeat kp_kind "s"
  refine range3_rows F N (by decide) (fun h' tk ta tb tc hr F N keepr => ?_)
  have hM0 : MAt { y0 with exs := [.word w0, .word w1], ads := [x0, x1], dxs := [dx0, dx1] } ((D, listOf (List.toArray [Value.ref x0, .ref x1]) 0) :: n2) := by
    refine ⟨rfl, rfl, fun j r e => ?_, ?_⟩
    · rcases j with _ | _ | j
      · cases e
        exact ⟨⟨_, .tail _ (sub2 _ hx0), tv0, t0, .ref it0, rfl⟩, .tail _ (sub2 _ hd0)⟩
      · cases e
        exact ⟨⟨_, .tail _ hx1, tv1, t1, .ref it1, rfl⟩, .tail _ hd1⟩
      · cases e
    · simp
      exact (ne2 _ hd0).2
  refine r_iterRange (n := tn) hhan rfl rfl F N hr (small3 _ (by omega)).1 (by rw [hT]; exact (small3 _ (by omega)).2)
    (fun I i mm n => mm "words" = some (.ref wl) ∧ mm "script" = some (.ref sl) ∧ mm "made" = some (.ref D) ∧ ∃ (y : Mx) (cn0 : Nat), y.exs = madeR [w0, w1, w2] sc i ∧ y.txt = y0.txt ∧ MAt y n ∧ (D, listOf (List.toArray (y.ads.map .ref)) cn0) ∈ n ∧ ∀ q ∈ news, q ∈ n)
    (fun I i mm n n' hlt hO ⟨j1, j2, j3, y, cn0, j4, j5, j6, j7, j8⟩ => ⟨j1, j2, j3, y, cn0, j4, j5, j6.off fun p hp hg => hO p hp (.inl (gd_ord hg)), hO _ j7 (.inl (ord_list _ _)), fun q hq => hO _ (j8 q hq) (.inr (by simpa using hlt q (hW0 q hq)))⟩)
    (fun I hI => ⟨rfl, rfl, rfl, { y0 with exs := [.word w0, .word w1], ads := [x0, x1], dxs := [dx0, dx1] }, 0, rfl, rfl, hM0, .head _, hW0⟩) ?_ ?_
  · intro I i tv mm n3 h' tk₁ it hI hi ⟨j1, j2, j3, y, cn0, j4, j5, j6, j7, j8⟩ hit hcit F N
    have hki : (0 + (i : Int) * 3) = nI (3 * i) := by simp only [nI]; omega
    rw [hki] at F
    have l0 : 3 * i < sc.length := by omega
    have l1 : 3 * i + 1 < sc.length := by omega
    have l2 : 3 * i + 2 < sc.length := by omega
    obtain ⟨va, hva, ta, rfl⟩ := hs.get (3 * i) _ (List.getElem?_eq_getElem l0)
    obtain ⟨vb, hvb, tb', rfl⟩ := hs.get (3 * i + 1) _ (List.getElem?_eq_getElem l1)
    obtain ⟨vc, hvc, tc', rfl⟩ := hs.get (3 * i + 2) _ (List.getElem?_eq_getElem l2)
    generalize hza : sc[3 * i] = za at *
    generalize hzb : sc[3 * i + 1] = zb at *
    generalize hzc : sc[3 * i + 2] = zc at *
    have hyl : y.exs.length = i + 2 := by rw [j4, madeR_len]
    have hal : y.ads.length = i + 2 := by rw [j6.la, hyl]
    have hpick : ∀ z, (max (0 : Int) (((i + 2 : Nat) : Int) - 1 - z.fmod 4)) = nI (pickI (i + 2) z) := fun z => by
      unfold pickI
      simp only [nI]
      omega
    have hget : ∀ z, (y.ads.map Value.ref)[pickI (i + 2) z]? = some (.ref (y.ads.getD (pickI (i + 2) z) 0)) := fun z => by
      have := @pickI_lt (i + 2) z (by omega)
      rw [List.getElem?_map, List.getD_eq_getElem?_getD, List.getElem?_eq_getElem (by omega)]; rfl
    repeat kp_kind "s"
    first | with_reducible refine r_itemD (k := 3 * i) N (j8 _ ms) (by omega) hva ?_ | refine r_itemD (k := 3 * i) N (j8 _ ms) (by omega) hva ?_
    repeat kp_kind "s"
    first | with_reducible refine mod_int (by decide) ?_ | refine mod_int (by decide) ?_
    repeat kp_kind "s"
    first | with_reducible refine r_len N j7 (by rw [List.size_toArray, List.length_map, hal, sizeLine_eq]; omega) ?_ | refine r_len N j7 (by rw [List.size_toArray, List.length_map, hal, sizeLine_eq]; omega) ?_
    rw [List.size_toArray, List.length_map, hal]
    repeat kp_kind "s"
    first | with_reducible refine r_sub rfl ?_ | refine r_sub rfl ?_
    repeat kp_kind "s"
    first | with_reducible refine r_add (c := nI (3 * i + 1)) rfl ?_ | refine r_add (c := nI (3 * i + 1)) rfl ?_
    repeat kp_kind "s"
    first | with_reducible refine r_itemD (k := 3 * i + 1) N (j8 _ ms) (by omega) hvb ?_ | refine r_itemD (k := 3 * i + 1) N (j8 _ ms) (by omega) hvb ?_
    repeat kp_kind "s"
    first | with_reducible refine mod_int (by decide) ?_ | refine mod_int (by decide) ?_
    repeat kp_kind "s"
    first | with_reducible refine r_sub rfl ?_ | refine r_sub rfl ?_
    repeat kp_kind "s"
    refine r_max0 hhan F N (fun h' tk v F N => ?_)
    rw [hpick]
    repeat kp_kind "s"
    first | with_reducible refine r_itemD (k := pickI (i + 2) zb) N j7 (by have := @pickI_lt (i + 2) zb (by omega); omega) (hget zb) ?_ | refine r_itemD (k := pickI (i + 2) zb) N j7 (by have := @pickI_lt (i + 2) zb (by omega); omega) (hget zb) ?_
    repeat kp_kind "s"
    first | with_reducible refine r_len N j7 (by rw [List.size_toArray, List.length_map, hal, sizeLine_eq]; omega) ?_ | refine r_len N j7 (by rw [List.size_toArray, List.length_map, hal, sizeLine_eq]; omega) ?_
    rw [List.size_toArray, List.length_map, hal]
    repeat kp_kind "s"
    first | with_reducible refine r_sub rfl ?_ | refine r_sub rfl ?_
    repeat kp_kind "s"
    first | with_reducible refine r_add (c := nI (3 * i + 2)) rfl ?_ | refine r_add (c := nI (3 * i + 2)) rfl ?_
    repeat kp_kind "s"
    first | with_reducible refine r_itemD (k := 3 * i + 2) N (j8 _ ms) (by omega) hvc ?_ | refine r_itemD (k := 3 * i + 2) N (j8 _ ms) (by omega) hvc ?_
    repeat kp_kind "s"
    first | with_reducible refine mod_int (by decide) ?_ | refine mod_int (by decide) ?_
    repeat kp_kind "s"
    first | with_reducible refine r_sub rfl ?_ | refine r_sub rfl ?_
    repeat kp_kind "s"
    refine r_max0 hhan F N (fun h' tk v F N => ?_)
    rw [hpick]
    repeat kp_kind "s"
    first | with_reducible refine r_itemD (k := pickI (i + 2) zc) N j7 (by have := @pickI_lt (i + 2) zc (by omega); omega) (hget zc) ?_ | refine r_itemD (k := pickI (i + 2) zc) N j7 (by have := @pickI_lt (i + 2) zc (by omega); omega) (hget zc) ?_
    kp_kind "s"
    refine wpAny_execs_cons ?_
    refine wpAny_Assign_Name ?_
    have hID : I ≠ D := fun q => hI _ (.head _) q.symm
    have hDn : ∀ q ∈ news, q.1 ≠ D := fun q hq => Nat.ne_of_lt (lD _ (sub2 _ (sub1 _ hq)))
    have fin : ∀ (r : Row) (x dx : Addr) (o : Obj) (h₁ h₂ : Heap) (tk₂ : Nat) (n4 : Led) (mm₂ : Str → Option Value), newRow [w0, w1, w2] (i + 2) za zb zc = r → Fr g' L' h₂ mm₂ → News g' L' h₁ n4 → News g' L' h₂ (put D (listOf ((List.toArray (y.ads.map Value.ref)).push (.ref x)) (cn0 + 1)) n4) →
        (∀ q ∈ n3, q ∈ n4) → (∀ q ∈ n3, q.1 ≠ dx) → (x, o) ∈ n4 → ExObj n4 (y.ads ++ [x]) (i + 2) dx r o → (dx, dictOf [] 0) ∈ n4 → mm₂ "words" = some (.ref wl) → mm₂ "script" = some (.ref sl) → mm₂ "made" = some (.ref D) →
        ∃ h₃ tk₃ m₃ n5, (⟨h₂, gn, dr, tk₂, os0⟩ : Shared) = ⟨h₃, gn, dr, tk₃, os0⟩ ∧ Fr g' L' h₃ m₃ ∧ News g' L' h₃ n5 ∧ (I, it) ∈ n5 ∧ m₃ "words" = some (.ref wl) ∧ m₃ "script" = some (.ref sl) ∧ m₃ "made" = some (.ref D) ∧ ∃ (y : Mx) (cn0 : Nat), y.exs = madeR [w0, w1, w2] sc (i + 1) ∧ y.txt = y0.txt ∧ MAt y n5 ∧ (D, listOf (List.toArray (y.ads.map .ref)) cn0) ∈ n5 ∧ ∀ q ∈ news, q ∈ n5 := by
      intro r x dx o h₁ h₂ tk₂ n4 mm₂ hr F N1 N sub4 hne hx ho hdx k1 k2 k3
      have hDm := sub4 _ j7
      refine ⟨h₂, tk₂, mm₂, _, rfl, F, N, put_ne (sub4 _ hit) hID, k1, k2, k3, y.snoc r x dx, cn0 + 1, ?_, j5, ?_, ?_, fun q hq => put_ne (sub4 _ (j8 q hq)) (hDn q hq)⟩
      · show y.exs ++ [r] = madeR [w0, w1, w2] sc i ++ [newRow [w0, w1, w2] (i + 2) (sc.getD (3 * i) 0) (sc.getD (3 * i + 1) 0) (sc.getD (3 * i + 2) 0)]
        rw [j4, List.getD_eq_getElem?_getD, List.getD_eq_getElem?_getD, List.getD_eq_getElem?_getD, List.getElem?_eq_getElem l0, List.getElem?_eq_getElem l1, List.getElem?_eq_getElem l2, hza, hzb, hzc, ← hr]
        rfl
      · refine MAt.off (MAt.snoc j6 (by rw [j4]; exact madeR_wf i) sub4 hx (by rw [hyl]; exact ho) hdx hne) fun p hp hg => put_ne hp fun q => ?_
        have := News.uniq N1 (q ▸ hp : (D, p.2) ∈ n4) hDm
        exact gd_nl (this ▸ hg)
      · have : (List.toArray (y.ads.map Value.ref)).push (.ref x) = List.toArray ((y.snoc r x dx).ads.map Value.ref) := by
          show _ = List.toArray ((y.ads ++ [x]).map Value.ref)
          rw [List.map_append, List.push_toArray]; rfl
        rw [← this]
        exact put_self hDm
    have hsn : ∀ z x, (y.ads ++ [x]).getD (pickI (i + 2) z) 0 = y.ads.getD (pickI (i + 2) z) 0 := fun z x => getD_snoc (by rw [hal]; exact pickI_lt (by omega))
    have hs1 : ∀ x, (y.ads ++ [x]).getD 1 0 = y.ads.getD 1 0 := fun x => getD_snoc (by omega)
    obtain ⟨kd, hk7, hkd⟩ : ∃ kd : Nat, kd < 7 ∧ za.fmod 7 = nI kd := by
      have h1 : 0 ≤ za.fmod 7 := Int.fmod_nonneg_of_pos za (by decide)
      have h2 : za.fmod 7 < 7 := Int.fmod_lt_of_pos za (by decide)
      exact ⟨(za.fmod 7).toNat, by omega, by simp only [nI]; omega⟩
    have hrow : newRow [w0, w1, w2] (i + 2) za zb zc = rowK [w0, w1, w2] (i + 2) kd zb zc := by
      unfold newRow
      rw [hkd, show (nI kd).toNat = kd from by simp [nI]]
    have hget1 : (y.ads.map Value.ref)[1]? = some (.ref (y.ads.getD 1 0)) := by
      rw [List.getElem?_map, List.getD_eq_getElem?_getD, List.getElem?_eq_getElem (by omega)]; rfl
    have h4l : ∀ z : Int, (z.fmod 4).toNat < 4 := fun z => by
      have h1 : 0 ≤ z.fmod 4 := Int.fmod_nonneg_of_pos z (by decide)
      have h2 : z.fmod 4 < 4 := Int.fmod_lt_of_pos z (by decide)
      omega
    have h4i : ∀ z : Int, z.fmod 4 = nI (z.fmod 4).toNat := fun z => by
      have h1 : 0 ≤ z.fmod 4 := Int.fmod_nonneg_of_pos z (by decide)
      simp only [nI]; omega
    have hwv : wvs.length = 3 := hw.length
    have hwd : ∀ (z : Int) (t0 : Tok), ∃ t, (wvs ++ [Value.str (Str.ofString "") t0])[(z.fmod 4).toNat]? = some (.str (S (wd [w0, w1, w2] z)) t) := fun z t0 => by
      have h4 := h4l z
      unfold wd
      generalize (z.fmod 4).toNat = j at *
      rcases Nat.lt_or_ge j 3 with hj | hj
      · obtain ⟨v, hv, t, rfl⟩ := hw.get j ([w0, w1, w2].getD j []) (by rw [List.getD_eq_getElem?_getD, List.getElem?_eq_getElem (by simpa using hj)]; rfl)
        exact ⟨t, by rw [List.getElem?_append_left (by omega)]; exact hv⟩
      · have : j = 3 := by omega
        subst this
        exact ⟨t0, by rw [List.getElem?_append_right (by omega), hwv]; rfl⟩
    have hwl2 : ∀ z : Int, (wd [w0, w1, w2] z).length ≤ 100 := fun z => by
      have h4 := h4l z
      unfold wd
      generalize (z.fmod 4).toNat = j at *
      rcases j with _ | _ | _ | _ | j
      · exact hwl w0 (by simp)
      · exact hwl w1 (by simp)
      · exact hwl w2 (by simp)
      · simp
      · omega
    refine wpAny_mono (Q := fun v s₂ => (∃ t, v = .str (S (nmT (i + 2))) t) ∧ ∃ tk', s₂ = ⟨h', gn, dr, tk', os0⟩) ?_ ?_ (fun _ _ e => e)
    · kp_kind "s"
      first | with_reducible refine isTrue_plain ?_ | refine isTrue_plain ?_
      repeat kp_kind "s"
      first | with_reducible refine r_len N j7 (by rw [List.size_toArray, List.length_map, hal, sizeLine_eq]; omega) ?_ | refine r_len N j7 (by rw [List.size_toArray, List.length_map, hal, sizeLine_eq]; omega) ?_
      rw [List.size_toArray, List.length_map, hal]
      repeat kp_kind "s"
      first | with_reducible refine mod_int (by decide) ?_ | refine mod_int (by decide) ?_
      first | with_reducible refine truthy_int ?_ | refine truthy_int ?_
      have hfm : (((i + 2 : Nat) : Int).fmod 2 != 0) = decide ((i + 2) % 2 = 1) := by
        have : ((i + 2 : Nat) : Int).fmod 2 = ((((i + 2) % 2 : Nat)) : Int) := by
          rw [Int.fmod_eq_emod_of_nonneg _ (by decide)]; omega
        rw [this]
        rcases Nat.mod_two_eq_zero_or_one (i + 2) with h | h <;> rw [h] <;> rfl
      rw [hfm]
      by_cases hpar : (i + 2) % 2 = 1
      · first | with_reducible refine itT (decide_eq_true hpar) ?_ | refine itT (decide_eq_true hpar) ?_
        repeat kp_kind "s"
        first | with_reducible refine r_len N j7 (by rw [List.size_toArray, List.length_map, hal, sizeLine_eq]; omega) ?_ | refine r_len N j7 (by rw [List.size_toArray, List.length_map, hal, sizeLine_eq]; omega) ?_
        rw [List.size_toArray, List.length_map, hal]
        repeat kp_kind "s"
        first | with_reducible refine pctN (k := i + 2) (by omega) (fun t' j => ?_) | refine pctN (k := i + 2) (by omega) (fun t' j => ?_)
        exact ⟨⟨t', by rw [nmT, if_pos hpar]⟩, _, rfl⟩
      · refine itF (by simpa using hpar) ?_
        repeat kp_kind "s"
        exact ⟨⟨_, by rw [nmT, if_neg hpar]; rfl⟩, _, rfl⟩
    rintro _ s₂ ⟨⟨tnm, rfl⟩, tk', rfl⟩
    repeat kp_kind "s"
    rw [hkd] at F ⊢
    rcases kd with _ | _ | _ | _ | _ | _ | _ | kd
    · first | with_reducible refine eq_int ?_ | refine eq_int ?_
      repeat kp_kind "s"
      first | with_reducible refine itT (by decide) ?_ | refine itT (by decide) ?_
      repeat kp_kind "s"
      refine r_newList F N (by show 1 ≤ sizeLine; decide) (fun l0 h' F N ll0 => ?_)
      repeat kp_kind "s"
      refine PyProof.Rows.add_lists F N (News.isList N (.tail _ (j8 _ mw))) (News.isList N (.head _)) (fun h' F N => ?_) (by rw [hwv, sizeLine_eq]; show 3 + 1 ≤ 16777216; decide)
      repeat kp_kind "s"
      first | with_reducible refine r_add (c := nI (3 * i + 1)) rfl ?_ | refine r_add (c := nI (3 * i + 1)) rfl ?_
      repeat kp_kind "s"
      first | with_reducible refine r_itemD (k := 3 * i + 1) N (.tail _ (.tail _ (j8 _ ms))) (by omega) hvb ?_ | refine r_itemD (k := 3 * i + 1) N (.tail _ (.tail _ (j8 _ ms))) (by omega) hvb ?_
      repeat kp_kind "s"
      first | with_reducible refine mod_int (by decide) ?_ | refine mod_int (by decide) ?_
      rw [h4i zb]
      repeat kp_kind "s"
      obtain ⟨tb2, hgb⟩ := hwd zb _
      first | with_reducible refine r_itemD (k := (zb.fmod 4).toNat) (n := 0) N (.head _) (by have := h4l zb; omega) hgb ?_ | refine r_itemD (k := (zb.fmod 4).toNat) (n := 0) N (.head _) (by have := h4l zb; omega) hgb ?_
      repeat kp_kind "s"
      refine r_newList F N (by show 1 ≤ sizeLine; decide) (fun l1 h' F N ll1 => ?_)
      repeat kp_kind "s"
      refine PyProof.Rows.add_lists F N (News.isList N (.tail _ (.tail _ (.tail _ (j8 _ mw))))) (News.isList N (.head _)) (fun h' F N => ?_) (by rw [hwv, sizeLine_eq]; show 3 + 1 ≤ 16777216; decide)
      repeat kp_kind "s"
      first | with_reducible refine r_add (c := nI (3 * i + 2)) rfl ?_ | refine r_add (c := nI (3 * i + 2)) rfl ?_
      repeat kp_kind "s"
      first | with_reducible refine r_itemD (k := 3 * i + 2) N (.tail _ (.tail _ (.tail _ (.tail _ (j8 _ ms))))) (by omega) hvc ?_ | refine r_itemD (k := 3 * i + 2) N (.tail _ (.tail _ (.tail _ (.tail _ (j8 _ ms))))) (by omega) hvc ?_
      repeat kp_kind "s"
      first | with_reducible refine mod_int (by decide) ?_ | refine mod_int (by decide) ?_
      rw [h4i zc]
      repeat kp_kind "s"
      obtain ⟨tc2, hgc⟩ := hwd zc _
      first | with_reducible refine r_itemD (k := (zc.fmod 4).toNat) (n := 0) N (.head _) (by have := h4l zc; omega) hgc ?_ | refine r_itemD (k := (zc.fmod 4).toNat) (n := 0) N (.head _) (by have := h4l zc; omega) hgc ?_
      repeat kp_kind "s"
      refine r_addS rfl (by rw [List.length_append]; have := hwl2 zb; have := hwl2 zc; omega) (fun tw tkw => ?_)
      repeat kp_kind "s"
      first | with_reducible refine listMethod_K N (.tail _ (.tail _ (.tail _ (.tail _ j7)))) PySem.F.slot_list_append PySem.F.type_list_append ?_ | refine listMethod_K N (.tail _ (.tail _ (.tail _ (.tail _ j7)))) PySem.F.slot_list_append PySem.F.type_list_append ?_
      repeat kp_kind "s"
      first | with_reducible refine call_KWn ?_ | refine call_KWn ?_
      repeat kp_kind "s"
      first | with_reducible refine callWith_KW X (by k_is) (by rfl) ?_ | refine callWith_KW X (by k_is) (by rfl) ?_
      repeat kp_kind "s"
      first | with_reducible refine kws_cons ?_ | refine kws_cons ?_
      repeat kp_kind "s"
      first | with_reducible refine kws_nil ?_ | refine kws_nil ?_
      repeat kp_kind "s"
      refine mk_lit (nm := nmT (i + 2)) po (.inl rfl) G' F N (by rw [depth_deeper]; omega) (fun x dx h₁ tk n4 it1 t1 F N sub4 ne4 hx hdx => ?_)
      have N1 := N
      have sub5 : ∀ q ∈ n3, q ∈ n4 := fun q hq => sub4 _ (.tail _ (.tail _ (.tail _ (.tail _ hq))))
      repeat kp_kind "s"
      refine r_append F N (sub5 _ j7) (by rw [List.size_toArray, List.length_map, hal, sizeLine_eq]; omega) (fun h' F N => ?_)
      repeat kp_kind "s"
      exact fin _ x dx _ _ h' _ n4 _ hrow F N1 N sub5 (fun q hq => (ne4 q (.tail _ (.tail _ (.tail _ (.tail _ hq))))).2) hx ⟨_, _, _, rfl⟩ hdx (by kp_kind "lk") (by kp_kind "lk") (by kp_kind "lk")
    · first | with_reducible refine eq_int ?_ | refine eq_int ?_
      repeat kp_kind "s"
      refine itF (by decide) ?_
      repeat kp_kind "s"
      first | with_reducible refine eq_int ?_ | refine eq_int ?_
      repeat kp_kind "s"
      first | with_reducible refine itT (by decide) ?_ | refine itT (by decide) ?_
      repeat kp_kind "s"
      first | with_reducible refine listMethod_K N j7 PySem.F.slot_list_append PySem.F.type_list_append ?_ | refine listMethod_K N j7 PySem.F.slot_list_append PySem.F.type_list_append ?_
      repeat kp_kind "s"
      first | with_reducible refine call_KWn ?_ | refine call_KWn ?_
      repeat kp_kind "s"
      first | with_reducible refine callWith_KW X (by k_is) (by rfl) ?_ | refine callWith_KW X (by k_is) (by rfl) ?_
      repeat kp_kind "s"
      first | with_reducible refine kws_cons ?_ | refine kws_cons ?_
      repeat kp_kind "s"
      first | with_reducible refine kws_nil ?_ | refine kws_nil ?_
      repeat kp_kind "s"
      refine mk_comp (C := 394) (nm := nmT (i + 2)) (v1 := .ref (y.ads.getD (pickI (i + 2) zb) 0)) (v2 := .ref (y.ads.getD (pickI (i + 2) zc) 0)) (v3 := .none) po (.inr (.inl rfl)) (.inl rfl) G' F N (by rw [depth_deeper]; omega) (fun x dx h₁ tk n4 it1 mt F N sub4 ne4 hx hmt hdx => ?_)
      have N1 := N
      repeat kp_kind "s"
      refine r_append F N (sub4 _ j7) (by rw [List.size_toArray, List.length_map, hal, sizeLine_eq]; omega) (fun h' F N => ?_)
      repeat kp_kind "s"
      refine fin _ x dx _ _ h' _ n4 _ hrow F N1 N sub4 (fun q hq => (ne4 q hq).2) hx ⟨_, _, mt, rfl, ?_⟩ hdx (by kp_kind "lk") (by kp_kind "lk") (by kp_kind "lk")
      show (mt, tupO [.ref ((y.ads ++ [x]).getD (pickI (i + 2) zb) 0), .ref ((y.ads ++ [x]).getD (pickI (i + 2) zc) 0)]) ∈ n4
      rw [hsn zb, hsn zc]
      exact hmt
    · first | with_reducible refine eq_int ?_ | refine eq_int ?_
      repeat kp_kind "s"
      refine itF (by decide) ?_
      repeat kp_kind "s"
      first | with_reducible refine eq_int ?_ | refine eq_int ?_
      repeat kp_kind "s"
      refine itF (by decide) ?_
      repeat kp_kind "s"
      first | with_reducible refine eq_int ?_ | refine eq_int ?_
      repeat kp_kind "s"
      first | with_reducible refine itT (by decide) ?_ | refine itT (by decide) ?_
      repeat kp_kind "s"
      first | with_reducible refine listMethod_K N j7 PySem.F.slot_list_append PySem.F.type_list_append ?_ | refine listMethod_K N j7 PySem.F.slot_list_append PySem.F.type_list_append ?_
      repeat kp_kind "s"
      first | with_reducible refine call_KWn ?_ | refine call_KWn ?_
      repeat kp_kind "s"
      first | with_reducible refine callWith_KW X (by k_is) (by rfl) ?_ | refine callWith_KW X (by k_is) (by rfl) ?_
      repeat kp_kind "s"
      first | with_reducible refine r_itemD (k := 1) N j7 (by decide) hget1 ?_ | refine r_itemD (k := 1) N j7 (by decide) hget1 ?_
      repeat kp_kind "s"
      first | with_reducible refine kws_cons ?_ | refine kws_cons ?_
      repeat kp_kind "s"
      first | with_reducible refine kws_nil ?_ | refine kws_nil ?_
      repeat kp_kind "s"
      refine mk_comp (C := 394) (nm := nmT (i + 2)) (v1 := .ref (y.ads.getD (pickI (i + 2) zb) 0)) (v2 := .ref (y.ads.getD (pickI (i + 2) zc) 0)) (v3 := .ref (y.ads.getD (1) 0)) po (.inr (.inr rfl)) (.inl rfl) G' F N (by rw [depth_deeper]; omega) (fun x dx h₁ tk n4 it1 mt F N sub4 ne4 hx hmt hdx => ?_)
      have N1 := N
      repeat kp_kind "s"
      refine r_append F N (sub4 _ j7) (by rw [List.size_toArray, List.length_map, hal, sizeLine_eq]; omega) (fun h' F N => ?_)
      repeat kp_kind "s"
      refine fin _ x dx _ _ h' _ n4 _ hrow F N1 N sub4 (fun q hq => (ne4 q hq).2) hx ⟨_, _, mt, rfl, ?_⟩ hdx (by kp_kind "lk") (by kp_kind "lk") (by kp_kind "lk")
      show (mt, tupO [.ref ((y.ads ++ [x]).getD (pickI (i + 2) zb) 0), .ref ((y.ads ++ [x]).getD (pickI (i + 2) zc) 0), .ref ((y.ads ++ [x]).getD (1) 0)]) ∈ n4
      rw [hsn zb, hsn zc, hs1]
      exact hmt
    · first | with_reducible refine eq_int ?_ | refine eq_int ?_
      repeat kp_kind "s"
      refine itF (by decide) ?_
      repeat kp_kind "s"
      first | with_reducible refine eq_int ?_ | refine eq_int ?_
      repeat kp_kind "s"
      refine itF (by decide) ?_
      repeat kp_kind "s"
      first | with_reducible refine eq_int ?_ | refine eq_int ?_
      repeat kp_kind "s"
      refine itF (by decide) ?_
      repeat kp_kind "s"
      first | with_reducible refine eq_int ?_ | refine eq_int ?_
      repeat kp_kind "s"
      first | with_reducible refine itT (by decide) ?_ | refine itT (by decide) ?_
      repeat kp_kind "s"
      first | with_reducible refine listMethod_K N j7 PySem.F.slot_list_append PySem.F.type_list_append ?_ | refine listMethod_K N j7 PySem.F.slot_list_append PySem.F.type_list_append ?_
      repeat kp_kind "s"
      first | with_reducible refine call_KWn ?_ | refine call_KWn ?_
      repeat kp_kind "s"
      first | with_reducible refine callWith_KW X (by k_is) (by rfl) ?_ | refine callWith_KW X (by k_is) (by rfl) ?_
      repeat kp_kind "s"
      first | with_reducible refine kws_cons ?_ | refine kws_cons ?_
      repeat kp_kind "s"
      first | with_reducible refine kws_nil ?_ | refine kws_nil ?_
      repeat kp_kind "s"
      refine mk_comp (C := 420) (nm := nmT (i + 2)) (v1 := .ref (y.ads.getD (pickI (i + 2) zb) 0)) (v2 := .ref (y.ads.getD (pickI (i + 2) zc) 0)) (v3 := .none) po (.inr (.inl rfl)) (.inr rfl) G' F N (by rw [depth_deeper]; omega) (fun x dx h₁ tk n4 it1 mt F N sub4 ne4 hx hmt hdx => ?_)
      have N1 := N
      repeat kp_kind "s"
      refine r_append F N (sub4 _ j7) (by rw [List.size_toArray, List.length_map, hal, sizeLine_eq]; omega) (fun h' F N => ?_)
      repeat kp_kind "s"
      refine fin _ x dx _ _ h' _ n4 _ hrow F N1 N sub4 (fun q hq => (ne4 q hq).2) hx ⟨_, _, mt, rfl, ?_⟩ hdx (by kp_kind "lk") (by kp_kind "lk") (by kp_kind "lk")
      show (mt, tupO [.ref ((y.ads ++ [x]).getD (pickI (i + 2) zb) 0), .ref ((y.ads ++ [x]).getD (pickI (i + 2) zc) 0)]) ∈ n4
      rw [hsn zb, hsn zc]
      exact hmt
    · first | with_reducible refine eq_int ?_ | refine eq_int ?_
      repeat kp_kind "s"
      refine itF (by decide) ?_
      repeat kp_kind "s"
      first | with_reducible refine eq_int ?_ | refine eq_int ?_
      repeat kp_kind "s"
      refine itF (by decide) ?_
      repeat kp_kind "s"
      first | with_reducible refine eq_int ?_ | refine eq_int ?_
      repeat kp_kind "s"
      refine itF (by decide) ?_
      repeat kp_kind "s"
      first | with_reducible refine eq_int ?_ | refine eq_int ?_
      repeat kp_kind "s"
      refine itF (by decide) ?_
      repeat kp_kind "s"
      first | with_reducible refine eq_int ?_ | refine eq_int ?_
      repeat kp_kind "s"
      first | with_reducible refine itT (by decide) ?_ | refine itT (by decide) ?_
      repeat kp_kind "s"
      first | with_reducible refine listMethod_K N j7 PySem.F.slot_list_append PySem.F.type_list_append ?_ | refine listMethod_K N j7 PySem.F.slot_list_append PySem.F.type_list_append ?_
      repeat kp_kind "s"
      first | with_reducible refine call_KWn ?_ | refine call_KWn ?_
      repeat kp_kind "s"
      first | with_reducible refine callWith_KW X (by k_is) (by rfl) ?_ | refine callWith_KW X (by k_is) (by rfl) ?_
      repeat kp_kind "s"
      first | with_reducible refine r_itemD (k := 1) N j7 (by decide) hget1 ?_ | refine r_itemD (k := 1) N j7 (by decide) hget1 ?_
      repeat kp_kind "s"
      first | with_reducible refine kws_cons ?_ | refine kws_cons ?_
      repeat kp_kind "s"
      first | with_reducible refine kws_nil ?_ | refine kws_nil ?_
      repeat kp_kind "s"
      refine mk_comp (C := 420) (nm := nmT (i + 2)) (v1 := .ref (y.ads.getD (1) 0)) (v2 := .ref (y.ads.getD (pickI (i + 2) zb) 0)) (v3 := .ref (y.ads.getD (pickI (i + 2) zc) 0)) po (.inr (.inr rfl)) (.inr rfl) G' F N (by rw [depth_deeper]; omega) (fun x dx h₁ tk n4 it1 mt F N sub4 ne4 hx hmt hdx => ?_)
      have N1 := N
      repeat kp_kind "s"
      refine r_append F N (sub4 _ j7) (by rw [List.size_toArray, List.length_map, hal, sizeLine_eq]; omega) (fun h' F N => ?_)
      repeat kp_kind "s"
      refine fin _ x dx _ _ h' _ n4 _ hrow F N1 N sub4 (fun q hq => (ne4 q hq).2) hx ⟨_, _, mt, rfl, ?_⟩ hdx (by kp_kind "lk") (by kp_kind "lk") (by kp_kind "lk")
      show (mt, tupO [.ref ((y.ads ++ [x]).getD (1) 0), .ref ((y.ads ++ [x]).getD (pickI (i + 2) zb) 0), .ref ((y.ads ++ [x]).getD (pickI (i + 2) zc) 0)]) ∈ n4
      rw [hsn zb, hsn zc, hs1]
      exact hmt
    · first | with_reducible refine eq_int ?_ | refine eq_int ?_
      repeat kp_kind "s"
      refine itF (by decide) ?_
      repeat kp_kind "s"
      first | with_reducible refine eq_int ?_ | refine eq_int ?_
      repeat kp_kind "s"
      refine itF (by decide) ?_
      repeat kp_kind "s"
      first | with_reducible refine eq_int ?_ | refine eq_int ?_
      repeat kp_kind "s"
      refine itF (by decide) ?_
      repeat kp_kind "s"
      first | with_reducible refine eq_int ?_ | refine eq_int ?_
      repeat kp_kind "s"
      refine itF (by decide) ?_
      repeat kp_kind "s"
      first | with_reducible refine eq_int ?_ | refine eq_int ?_
      repeat kp_kind "s"
      refine itF (by decide) ?_
      repeat kp_kind "s"
      first | with_reducible refine listMethod_K N j7 PySem.F.slot_list_append PySem.F.type_list_append ?_ | refine listMethod_K N j7 PySem.F.slot_list_append PySem.F.type_list_append ?_
      repeat kp_kind "s"
      first | with_reducible refine call_KWn ?_ | refine call_KWn ?_
      repeat kp_kind "s"
      first | with_reducible refine callWith_KW X (by k_is) (by rfl) ?_ | refine callWith_KW X (by k_is) (by rfl) ?_
      repeat kp_kind "s"
      first | with_reducible refine kws_cons ?_ | refine kws_cons ?_
      repeat kp_kind "s"
      first | with_reducible refine eq_int ?_ | refine eq_int ?_
      repeat kp_kind "s"
      first | with_reducible refine kws_cons ?_ | refine kws_cons ?_
      repeat kp_kind "s"
      first | with_reducible refine kws_nil ?_ | refine kws_nil ?_
      repeat kp_kind "s"
      refine mk_look (nm := nmT (i + 2)) (b := true) po G' F N (by rw [depth_deeper]; omega) (fun x dx h₁ tk n4 it1 mt F N sub4 ne4 hx hmt hdx => ?_)
      have N1 := N
      repeat kp_kind "s"
      refine r_append F N (sub4 _ j7) (by rw [List.size_toArray, List.length_map, hal, sizeLine_eq]; omega) (fun h' F N => ?_)
      repeat kp_kind "s"
      refine fin _ x dx _ _ h' _ n4 _ hrow F N1 N sub4 (fun q hq => (ne4 q hq).2) hx ⟨_, _, mt, rfl, ?_⟩ hdx (by kp_kind "lk") (by kp_kind "lk") (by kp_kind "lk")
      show (mt, tupO [.ref ((y.ads ++ [x]).getD (pickI (i + 2) zb) 0)]) ∈ n4
      rw [hsn zb]
      exact hmt
    · first | with_reducible refine eq_int ?_ | refine eq_int ?_
      repeat kp_kind "s"
      refine itF (by decide) ?_
      repeat kp_kind "s"
      first | with_reducible refine eq_int ?_ | refine eq_int ?_
      repeat kp_kind "s"
      refine itF (by decide) ?_
      repeat kp_kind "s"
      first | with_reducible refine eq_int ?_ | refine eq_int ?_
      repeat kp_kind "s"
      refine itF (by decide) ?_
      repeat kp_kind "s"
      first | with_reducible refine eq_int ?_ | refine eq_int ?_
      repeat kp_kind "s"
      refine itF (by decide) ?_
      repeat kp_kind "s"
      first | with_reducible refine eq_int ?_ | refine eq_int ?_
      repeat kp_kind "s"
      refine itF (by decide) ?_
      repeat kp_kind "s"
      first | with_reducible refine listMethod_K N j7 PySem.F.slot_list_append PySem.F.type_list_append ?_ | refine listMethod_K N j7 PySem.F.slot_list_append PySem.F.type_list_append ?_
      repeat kp_kind "s"
      first | with_reducible refine call_KWn ?_ | refine call_KWn ?_
      repeat kp_kind "s"
      first | with_reducible refine callWith_KW X (by k_is) (by rfl) ?_ | refine callWith_KW X (by k_is) (by rfl) ?_
      repeat kp_kind "s"
      first | with_reducible refine kws_cons ?_ | refine kws_cons ?_
      repeat kp_kind "s"
      first | with_reducible refine eq_int ?_ | refine eq_int ?_
      repeat kp_kind "s"
      first | with_reducible refine kws_cons ?_ | refine kws_cons ?_
      repeat kp_kind "s"
      first | with_reducible refine kws_nil ?_ | refine kws_nil ?_
      repeat kp_kind "s"
      refine mk_look (nm := nmT (i + 2)) (b := false) po G' F N (by rw [depth_deeper]; omega) (fun x dx h₁ tk n4 it1 mt F N sub4 ne4 hx hmt hdx => ?_)
      have N1 := N
      repeat kp_kind "s"
      refine r_append F N (sub4 _ j7) (by rw [List.size_toArray, List.length_map, hal, sizeLine_eq]; omega) (fun h' F N => ?_)
      repeat kp_kind "s"
      refine fin _ x dx _ _ h' _ n4 _ hrow F N1 N sub4 (fun q hq => (ne4 q hq).2) hx ⟨_, _, mt, rfl, ?_⟩ hdx (by kp_kind "lk") (by kp_kind "lk") (by kp_kind "lk")
      show (mt, tupO [.ref ((y.ads ++ [x]).getD (pickI (i + 2) zb) 0)]) ∈ n4
      rw [hsn zb]
      exact hmt
    · omega
  · intro I mm n3 h' tk₁ hI ⟨j1, j2, j3, y, cn0, j4, j5, j6, j7, j8⟩ F N
    repeat kp_kind "s"
    kp_kind "k"
    exact h D y cn0 _ _ n3 F N j8 j4 j5 j6 j7
end
end Vy
end
section
namespace Vy
section
variable {prog : Program} {w : World} {A : Around} {E : Value → Shared → Prop} {s : Shared} {env : Env} {g : Heap} {L : Addr} {m : Str → Option Value} {news : List (Addr × Obj)} {R : Result → Shared → Prop}

theorem word_spec (G : Gd w A env g L) (F : Fr g L s.heap m) (N : News g L s.heap news) (hd : A.depth + 1 < recursionLimit)
    {told : Str} {tk : Nat} {pre x post : List Nat} {u : Nat} (ht : told.cps.toList = pre ++ reprW x ++ post) (hx : ∀ c ∈ x, c ∈ AC) (hlen : told.cps.size ≤ 100000)
    (h : ∀ a t1 t2 h' tk, Fr g L h' m → News g L h' ((a, tupO [.str (S x) t1, .int (pre.length + (reprW x).length : Nat) t2]) :: news) → (∀ p ∈ news, p.1 < a) →
      R (.ok (.ret (.ref a))) { s with heap := h', toks := tk }) :
    codeAny (model prog w) A (.call (.ref 483) ⟨[.str told tk, .int pre.length u], []⟩) R s := by
  obtain ⟨h', gn, dr, tk0, os0⟩ := s
  refine enterN G F N (by k_is) (by k_is) (by omega) (binds := [("told", .str told tk), ("at", .int pre.length u)]) (BindsTo.of_eq rfl) (locs rfl) (fun g' L' h' G' keep F N lt => ?_) (by decide) rfl rfl rfl
  have ⟨X, ⟨p, loose, mean, mg, mb, T⟩, _, _, _⟩ := G'
  repeat kp_kind "s"
  with_reducible refine add_int ?_
  repeat kp_kind "s"
  refine While_inv (fun n m₁ news₁ => ∃ done rest, x = done ++ rest ∧ n = rest.length ∧ news = news₁ ∧ m₁ "told" = some (.str told tk) ∧ m₁ "at" = some (.int pre.length u) ∧
    LStr m₁ "word" (S done) ∧ LInt m₁ "end" (pre.length + 1 + (done.flatMap (Builtin.Str.reprChar (qW x))).length : Nat)) F N ⟨[], x, rfl, rfl, rfl, rfl, rfl, ⟨_, rfl⟩, ⟨_, by rfl⟩⟩ ?_ PassesOwn.never
  rintro n m₁ news₁ h' tk₁ F N ⟨done, rest, hx', rfl, rfl, m1, m2, ⟨t1, m3⟩, ⟨t2, m4⟩⟩
  have hq := qW_or x
  generalize hqe : qW x = q at *
  have ht' : told.cps.toList = pre ++ (q :: (done.flatMap (Builtin.Str.reprChar q) ++ (rest.flatMap (Builtin.Str.reprChar q) ++ (q :: post)))) := by
    rw [ht, reprW_eq, hqe, hx']; simp
  have hl0 : told.cps.toList.length ≤ 100000 := by simpa using hlen
  have hl : pre.length + 1 + (done.flatMap (Builtin.Str.reprChar q)).length < 100000 := by
    rw [ht'] at hl0; simp only [List.length_append, List.length_cons] at hl0; omega
  have hat : told.cps.toList[pre.length]? = some q := by rw [ht']; simp
  have hend : ∀ k, told.cps.toList[pre.length + 1 + (done.flatMap (Builtin.Str.reprChar q)).length + k]? = (rest.flatMap (Builtin.Str.reprChar q) ++ (q :: post))[k]? := by
    intro k
    rw [ht', List.getElem?_append_right (by omega), show pre.length + 1 + (done.flatMap (Builtin.Str.reprChar q)).length + k - pre.length = ((done.flatMap (Builtin.Str.reprChar q)).length + k) + 1 from by omega, List.getElem?_cons_succ,
      List.getElem?_append_right (by omega)]
    congr 1; omega
  repeat kp_kind "s"
  cases rest with
  | nil =>
    with_reducible refine r_chr (c := q) (by have := hend 0; simpa using this) (by omega) ?_
    repeat kp_kind "s"
    with_reducible refine r_chr (c := q) hat (by omega) ?_
    with_reducible refine ne_str ?_
    repeat kp_kind "s"
    refine itF chr_nn ?_
    repeat kp_kind "s"
    with_reducible refine add_int ?_
    repeat kp_kind "s"
    refine r_newTuple F N (by simp; decide) (fun a h' F N l => ?_)
    kp_kind "k"
    have e : ((pre.length + 1 + (List.flatMap (Builtin.Str.reprChar q) done).length : Nat) : Int) + 1 = ((pre.length + (reprW x).length : Nat) : Int) := by
      rw [reprW_eq, hqe, hx']; simp; omega
    have e2 : x = done := by rw [hx', List.append_nil]
    dsimp only at N
    rw [e, ← e2] at N
    exact h _ _ _ _ _ F N l
  | cons c rest =>
    have hc : c ∈ AC := hx c (by rw [hx']; simp)
    have hq0 : q ≠ 92 := by rcases hq with h | h <;> omega
    have hxx : x = (done ++ [c]) ++ rest := by rw [hx']; simp
    have hdl : done.length ≤ (done.flatMap (Builtin.Str.reprChar q)).length := flatMap_le (rc_pos q) done
    rcases rc_cases hq hc with ⟨d, hr, hd⟩ | ⟨hr, h1, h2⟩
    · have ee : ((pre.length + 1 + (done.flatMap (Builtin.Str.reprChar q)).length : Nat) : Int) + 1 = ((pre.length + 1 + (done.flatMap (Builtin.Str.reprChar q)).length + 1 : Nat) : Int) := by omega
      have ef : ((pre.length + 1 + (done.flatMap (Builtin.Str.reprChar q)).length + 1 : Nat) : Int) + 1 = ((pre.length + 1 + ((done ++ [c]).flatMap (Builtin.Str.reprChar q)).length : Nat) : Int) := by
        rw [List.flatMap_append, List.flatMap_cons, hr]; simp; omega
      rw [List.flatMap_cons, hr] at hend
      with_reducible refine r_chr (c := 92) (by have := hend 0; simpa using this) (by omega) ?_
      repeat kp_kind "s"
      with_reducible refine r_chr (c := q) hat (by omega) ?_
      with_reducible refine ne_str ?_
      repeat kp_kind "s"
      with_reducible refine itT (chr_ne hq0.symm) ?_
      repeat kp_kind "s"
      with_reducible refine r_chr (c := 92) (by have := hend 0; simpa using this) (by omega) ?_
      repeat kp_kind "s"
      with_reducible refine eq_str ?_
      repeat kp_kind "s"
      with_reducible refine itT (by decide) ?_
      repeat kp_kind "s"
      with_reducible refine iadd_int ?_
      rw [ee]
      repeat kp_kind "s"
      with_reducible refine r_chr (c := d) (by have := hend 1; simpa using this) (by omega) ?_
      repeat kp_kind "s"
      with_reducible refine eq_str ?_
      repeat kp_kind "s"
      by_cases h110 : d = 110
      · subst h110
        with_reducible refine itT (by decide) ?_
        repeat kp_kind "s"
        rw [if_pos rfl] at hd
        subst hd
        first | with_reducible refine SBL.iadd (fun t' k _ => ?_) (by rw [S_len, sizeLine_eq]; show _ + 1 ≤ _; omega) | refine SBL.iadd (fun t' k _ => ?_) (by rw [S_len, sizeLine_eq]; show _ + 1 ≤ _; omega)
        rw [show S done ++ Str.ofString "\n" = S (done ++ [10]) from S_append done [10]]
        repeat kp_kind "s"
        with_reducible refine iadd_int ?_
        rw [ef]
        repeat kp_kind "s"
        refine WhileStep.intro F N (n' := rest.length) (by simp) ⟨done ++ [10], rest, hxx, rfl, rfl, by kp_kind "lk", by kp_kind "lk", ⟨_, by kp_kind "lk"⟩, ⟨_, by kp_kind "lk"⟩⟩
      · refine itF (chr_neq h110) ?_
        repeat kp_kind "s"
        with_reducible refine r_chr (c := d) (by have := hend 1; simpa using this) (by omega) ?_
        first | with_reducible refine SBL.iadd (fun t' k _ => ?_) (by rw [S_len, S_len, sizeLine_eq]; show _ + 1 ≤ _; omega) | refine SBL.iadd (fun t' k _ => ?_) (by rw [S_len, S_len, sizeLine_eq]; show _ + 1 ≤ _; omega)
        rw [if_neg h110] at hd
        subst hd
        rw [S_append]
        repeat kp_kind "s"
        with_reducible refine iadd_int ?_
        rw [ef]
        repeat kp_kind "s"
        refine WhileStep.intro F N (n' := rest.length) (by simp) ⟨done ++ [d], rest, hxx, rfl, rfl, by kp_kind "lk", by kp_kind "lk", ⟨_, by kp_kind "lk"⟩, ⟨_, by kp_kind "lk"⟩⟩
    · have ef : ((pre.length + 1 + (done.flatMap (Builtin.Str.reprChar q)).length : Nat) : Int) + 1 = ((pre.length + 1 + ((done ++ [c]).flatMap (Builtin.Str.reprChar q)).length : Nat) : Int) := by
        rw [List.flatMap_append, List.flatMap_cons, hr]; simp; omega
      rw [List.flatMap_cons, hr] at hend
      with_reducible refine r_chr (c := c) (by have := hend 0; simpa using this) (by omega) ?_
      repeat kp_kind "s"
      with_reducible refine r_chr (c := q) hat (by omega) ?_
      with_reducible refine ne_str ?_
      repeat kp_kind "s"
      with_reducible refine itT (chr_ne h2) ?_
      repeat kp_kind "s"
      with_reducible refine r_chr (c := c) (by have := hend 0; simpa using this) (by omega) ?_
      repeat kp_kind "s"
      with_reducible refine eq_str ?_
      repeat kp_kind "s"
      refine itF (chr_neq h1) ?_
      repeat kp_kind "s"
      with_reducible refine r_chr (c := c) (by have := hend 0; simpa using this) (by omega) ?_
      first | with_reducible refine SBL.iadd (fun t' k _ => ?_) (by rw [S_len, S_len, sizeLine_eq]; show _ + 1 ≤ _; omega) | refine SBL.iadd (fun t' k _ => ?_) (by rw [S_len, S_len, sizeLine_eq]; show _ + 1 ≤ _; omega)
      rw [S_append]
      repeat kp_kind "s"
      with_reducible refine iadd_int ?_
      rw [ef]
      repeat kp_kind "s"
      refine WhileStep.intro F N (n' := rest.length) (by simp) ⟨done ++ [c], rest, hxx, rfl, rfl, by kp_kind "lk", by kp_kind "lk", ⟨_, by kp_kind "lk"⟩, ⟨_, by kp_kind "lk"⟩⟩
end
end Vy
end
section
open PyProof.V
namespace Vy
section
variable {prog : Program} {w : World} {txt : List Nat} {nm : Nat → Nat → Option Nat}
theorem part_word (x : List Nat) : PartSpec prog w txt nm (.word x) := by
  intro A env g L m news s R told tk u pre post ex l d rows D G F N hdep hhan ht hst hlen hsz hw hR hex hH hdl hok hret
  obtain ⟨h', gn, dr, tk0, os0⟩ := s
  refine enterN G F N (by k_is) (by k_is) (by omega) (binds := [("told", .str told tk), ("at", .int (nI pre.length) u), ("rows", .ref l), ("homes", .ref d)]) (BindsTo.of_eq rfl) (locs rfl) (fun g' L' h' G' keep F N lt => ?_) (by decide) rfl rfl rfl
  have ⟨X, ⟨p, loose, mean, mg, mb, T⟩, _, _, _⟩ := G'
  have hq := qW_or x
  have h0 : told.cps.toList[pre.length]? = some (qW x) := by rw [ht]; show (pre ++ reprW x ++ post)[_]? = _; rw [reprW_eq]; simp
  have hl0 : told.cps.toList.length ≤ 100000 := by simpa using hlen
  have hpl : pre.length < 100000 := by
    rw [ht] at hl0; simp only [List.length_append] at hl0; have : 1 ≤ (render (Tr.word x)).length := by (show 1 ≤ (reprW x).length); rw [reprW_eq]; simp
    omega
  repeat kp_kind "s"
  first | with_reducible refine r_chr (c := qW x) h0 (by omega) ?_ | refine r_chr (c := qW x) h0 (by omega) ?_
  repeat kp_kind "s"
  refine r_newTuple F N (by simp; decide) (fun a1 h' F N l1 => ?_)
  refine in_tuple_strs (News.isTup N (.head _)) (.cons _ _ (.cons _ _ .nil)) ?_
  repeat kp_kind "s"
  refine itF (by rcases hq with h | h <;> rw [h] <;> decide) ?_
  repeat kp_kind "s"
  first | with_reducible refine r_chr (c := qW x) h0 (by omega) ?_ | refine r_chr (c := qW x) h0 (by omega) ?_
  repeat kp_kind "s"
  first | with_reducible refine eq_str ?_ | refine eq_str ?_
  repeat kp_kind "s"
  refine itF (by rcases hq with h | h <;> rw [h] <;> decide) ?_
  repeat kp_kind "s"
  first | with_reducible refine r_chr (c := qW x) h0 (by omega) ?_ | refine r_chr (c := qW x) h0 (by omega) ?_
  repeat kp_kind "s"
  refine r_newTuple F N (by simp; decide) (fun a2 h' F N l2 => ?_)
  refine in_tuple_strs (News.isTup N (.head _)) (.cons _ _ (.cons _ _ .nil)) ?_
  repeat kp_kind "s"
  first | with_reducible refine itT (by rcases hq with h | h <;> rw [h] <;> decide) ?_ | refine itT (by rcases hq with h | h <;> rw [h] <;> decide) ?_
  repeat kp_kind "s"
  repeat kp_kind "s"
  refine word_spec G' F N (by rw [depth_deeper]; omega) (x := x) (post := post) ht (hw x (.head _)) hlen (fun a t1 t2 h' tk F N l3 => ?_)
  refine unpackN_ F N (News.isTup N (.head _)) hhan rfl rfl (fun h' F N => ?_)
  repeat kp_kind "s"
  refine r_newTuple F N (by show 2 ≤ sizeLine; decide) (fun a4 h' F N l4 => ?_)
  repeat kp_kind "s"
  obtain ⟨hlex, vs, n, m0, al, wf⟩ := hR
  have hxs : RSm (.word x) := by
    have h1 := reprW_ge x
    have h2 := congrArg List.length ht
    rw [List.length_append, List.length_append, Array.length_toList] at h2
    have h3 : (render (.word x)).length = (reprW x).length := rfl
    show x.length ≤ 100000
    omega
  have hvl := al.length
  have hl4 : a4 ∉ ex := (hex.sup fun p hp => by kp_kind "mem").out l4
  refine kept_spec G' F N (by rw [depth_deeper]; omega) (l := l) (its := List.toArray vs) (n := n) (by kp_kind "mem") (by simp only [List.size_toArray]; omega) (fun t3 h' tk5 F N => ?_)
  repeat kp_kind "s"
  refine r_newTuple F N (by show 2 ≤ sizeLine; decide) (fun a5 h' F N l5 => ?_)
  kp_kind "k"
  have e : ((List.toArray vs).size : Int) = nI rows.length := by rw [List.size_toArray, hvl]
  rw [e] at N
  refine hret a5 rows.length t3 t2 [.word x] h' _ _ F N ?_ ?_ ?_ ?_ (.head _)
  · exact fun p hp hn => .tail _ (put_ne (by kp_kind "mem") hn)
  · refine RowsAt.sup ?_ (fun p hp => List.mem_cons_of_mem _ hp)
    exact RowsAt.kept (r := .word x) hlex (al.mono fun a b q => q.mono fun p hp _ => by kp_kind "mem") wf (by kp_kind "mem") ⟨a4, rfl, hl4, _, _, .head _⟩ (by simp [Row.kids]) hxs
  · simp [Tr.size]
  · exact ⟨by simp, fun p => rs_last⟩
end
end Vy
end
section
open PyProof.V
namespace Vy
section
variable {prog : Program} {w : World} {txt : List Nat} {nm : Nat → Nat → Option Nat}
theorem part_neg (a : Tr) (IH : PartSpec prog w txt nm a) : PartSpec prog w txt nm (.neg a) := by
  intro A env g L m news s R told tk u pre post ex l d rows D G F N hdep hhan ht hst hlen hsz hw hR hex hH hdl hok hret
  obtain ⟨h', gn, dr, tk0, os0⟩ := s
  simp only [Tr.size] at hdep hsz
  refine enterN G F N (by k_is) (by k_is) (by omega) (binds := [("told", .str told tk), ("at", .int (nI pre.length) u), ("rows", .ref l), ("homes", .ref d)]) (BindsTo.of_eq rfl) (locs rfl) (fun g' L' h' G' keep F N lt => ?_) (by decide) rfl rfl rfl
  have ⟨X, ⟨p, loose, mean, mg, mb, T⟩, _, _, _⟩ := G'
  have h0 : told.cps.toList[pre.length]? = some 33 := by rw [ht]; simp [render]
  have hl0 : told.cps.toList.length ≤ 100000 := by simpa using hlen
  have hpl : pre.length < 100000 := by rw [ht] at hl0; simp [render] at hl0; omega
  repeat kp_kind "s"
  first | with_reducible refine r_chr (c := 33) h0 (by omega) ?_ | refine r_chr (c := 33) h0 (by omega) ?_
  repeat kp_kind "s"
  refine r_newTuple F N (by show 2 ≤ sizeLine; decide) (fun a1 h' F N l1 => ?_)
  refine in_tuple_strs (News.isTup N (.head _)) (.cons _ _ (.cons _ _ .nil)) ?_
  repeat kp_kind "s"
  first | with_reducible refine itT (by decide) ?_ | refine itT (by decide) ?_
  repeat kp_kind "s"
  first | with_reducible refine r_add (c := nI (pre ++ [33]).length) (by simp) ?_ | refine r_add (c := nI (pre ++ [33]).length) (by simp) ?_
  repeat kp_kind "s"
  refine IH G' F N (by rw [depth_deeper]; omega) hhan (pre := pre ++ [33]) (post := post) (by rw [ht]; simp [render]) hst hlen (by omega) hw (hR.sup fun p hp => .tail _ hp) (hex.sup fun p hp => .tail _ hp) (hH.mono hdl fun p hp _ => .tail _ hp) hdl hok
    (fun a2 r t1 t2 more h' tk1 news2 F N sub hR hml hden hm2 => ?_)
  repeat kp_kind "s"
  refine unpackN_ F N (News.isTup N hm2) hhan rfl rfl (fun h' F N => ?_)
  repeat kp_kind "s"
  first | with_reducible refine r_chr (c := 33) h0 (by omega) ?_ | refine r_chr (c := 33) h0 (by omega) ?_
  repeat kp_kind "s"
  first | with_reducible refine eq_str ?_ | refine eq_str ?_
  repeat kp_kind "s"
  first | with_reducible refine itT (by decide) ?_ | refine itT (by decide) ?_
  repeat kp_kind "s"
  refine r_newTuple F N (by show 2 ≤ sizeLine; decide) (fun a4 h' F N l4 => ?_)
  repeat kp_kind "s"
  obtain ⟨hlex, vs, n, m0, al, wf⟩ := hR
  have hvl := al.length
  have hl4 : a4 ∉ ex := (hex.sub (fun p hp hn => sub p (.tail _ hp) hn) m0).out l4
  simp only [List.length_append] at hvl
  refine kept_spec G' F N (by rw [depth_deeper]; omega) (l := l) (its := List.toArray vs) (n := n) (by kp_kind "mem") (by simp only [List.size_toArray]; omega) (fun t3 h' tk5 F N => ?_)
  repeat kp_kind "s"
  refine r_newTuple F N (by show 2 ≤ sizeLine; decide) (fun a5 h' F N l5 => ?_)
  kp_kind "k"
  have e : ((List.toArray vs).size : Int) = nI (rows ++ more).length := by rw [List.size_toArray, hvl, List.length_append]
  have e2 : nI ((pre ++ [33]).length + (render a).length) = nI (pre.length + (render (.neg a)).length) := by simp [render]; omega
  rw [e, e2] at N
  refine hret a5 (rows ++ more).length t3 t2 (more ++ [.neg r]) h' _ _ F N ?_ ?_ ?_ ?_ (.head _)
  · exact fun p hp hn => .tail _ (put_ne (.tail _ (sub p (.tail _ hp) hn)) hn)
  · refine RowsAt.sup (news := put l (listOf ((List.toArray vs).push (.ref a4)) (n + 1)) _) ?_ (fun p hp => List.mem_cons_of_mem _ hp)
    rw [← List.append_assoc]
    exact RowsAt.kept (r := .neg r) hlex (al.mono fun a b q => q.mono fun p hp _ => by kp_kind "mem") wf (by kp_kind "mem") ⟨a4, rfl, hl4, _, _, .head _⟩ (by simp [Row.kids]; exact (by simpa using hden.1)) trivial
  · simp only [List.length_append, List.length_cons, List.length_nil, Tr.size]; omega
  · refine ⟨by simp, fun p => ?_⟩
    rw [← List.append_assoc, rs_last]
    show (if (rs txt (rows ++ more) r p).isSome then none else some p) = _
    rw [hden.2 p]; rfl
theorem part_look (a : Tr) (IH : PartSpec prog w txt nm a) : PartSpec prog w txt nm (.look a) := by
  intro A env g L m news s R told tk u pre post ex l d rows D G F N hdep hhan ht hst hlen hsz hw hR hex hH hdl hok hret
  obtain ⟨h', gn, dr, tk0, os0⟩ := s
  simp only [Tr.size] at hdep hsz
  refine enterN G F N (by k_is) (by k_is) (by omega) (binds := [("told", .str told tk), ("at", .int (nI pre.length) u), ("rows", .ref l), ("homes", .ref d)]) (BindsTo.of_eq rfl) (locs rfl) (fun g' L' h' G' keep F N lt => ?_) (by decide) rfl rfl rfl
  have ⟨X, ⟨p, loose, mean, mg, mb, T⟩, _, _, _⟩ := G'
  have h0 : told.cps.toList[pre.length]? = some 38 := by rw [ht]; simp [render]
  have hl0 : told.cps.toList.length ≤ 100000 := by simpa using hlen
  have hpl : pre.length < 100000 := by rw [ht] at hl0; simp [render] at hl0; omega
  repeat kp_kind "s"
  first | with_reducible refine r_chr (c := 38) h0 (by omega) ?_ | refine r_chr (c := 38) h0 (by omega) ?_
  repeat kp_kind "s"
  refine r_newTuple F N (by show 2 ≤ sizeLine; decide) (fun a1 h' F N l1 => ?_)
  refine in_tuple_strs (News.isTup N (.head _)) (.cons _ _ (.cons _ _ .nil)) ?_
  repeat kp_kind "s"
  first | with_reducible refine itT (by decide) ?_ | refine itT (by decide) ?_
  repeat kp_kind "s"
  first | with_reducible refine r_add (c := nI (pre ++ [38]).length) (by simp) ?_ | refine r_add (c := nI (pre ++ [38]).length) (by simp) ?_
  repeat kp_kind "s"
  refine IH G' F N (by rw [depth_deeper]; omega) hhan (pre := pre ++ [38]) (post := post) (by rw [ht]; simp [render]) hst hlen (by omega) hw (hR.sup fun p hp => .tail _ hp) (hex.sup fun p hp => .tail _ hp) (hH.mono hdl fun p hp _ => .tail _ hp) hdl hok
    (fun a2 r t1 t2 more h' tk1 news2 F N sub hR hml hden hm2 => ?_)
  repeat kp_kind "s"
  refine unpackN_ F N (News.isTup N hm2) hhan rfl rfl (fun h' F N => ?_)
  repeat kp_kind "s"
  first | with_reducible refine r_chr (c := 38) h0 (by omega) ?_ | refine r_chr (c := 38) h0 (by omega) ?_
  repeat kp_kind "s"
  first | with_reducible refine eq_str ?_ | refine eq_str ?_
  repeat kp_kind "s"
  refine itF (by decide) ?_
  repeat kp_kind "s"
  refine r_newTuple F N (by show 2 ≤ sizeLine; decide) (fun a4 h' F N l4 => ?_)
  repeat kp_kind "s"
  obtain ⟨hlex, vs, n, m0, al, wf⟩ := hR
  have hvl := al.length
  have hl4 : a4 ∉ ex := (hex.sub (fun p hp hn => sub p (.tail _ hp) hn) m0).out l4
  simp only [List.length_append] at hvl
  refine kept_spec G' F N (by rw [depth_deeper]; omega) (l := l) (its := List.toArray vs) (n := n) (by kp_kind "mem") (by simp only [List.size_toArray]; omega) (fun t3 h' tk5 F N => ?_)
  repeat kp_kind "s"
  refine r_newTuple F N (by show 2 ≤ sizeLine; decide) (fun a5 h' F N l5 => ?_)
  kp_kind "k"
  have e : ((List.toArray vs).size : Int) = nI (rows ++ more).length := by rw [List.size_toArray, hvl, List.length_append]
  have e2 : nI ((pre ++ [38]).length + (render a).length) = nI (pre.length + (render (.look a)).length) := by simp [render]; omega
  rw [e, e2] at N
  refine hret a5 (rows ++ more).length t3 t2 (more ++ [.look r]) h' _ _ F N ?_ ?_ ?_ ?_ (.head _)
  · exact fun p hp hn => .tail _ (put_ne (.tail _ (sub p (.tail _ hp) hn)) hn)
  · refine RowsAt.sup (news := put l (listOf ((List.toArray vs).push (.ref a4)) (n + 1)) _) ?_ (fun p hp => List.mem_cons_of_mem _ hp)
    rw [← List.append_assoc]
    exact RowsAt.kept (r := .look r) hlex (al.mono fun a b q => q.mono fun p hp _ => by kp_kind "mem") wf (by kp_kind "mem") ⟨a4, rfl, hl4, _, _, .head _⟩ (by simp [Row.kids]; exact (by simpa using hden.1)) trivial
  · simp only [List.length_append, List.length_cons, List.length_nil, Tr.size]; omega
  · refine ⟨by simp, fun p => ?_⟩
    rw [← List.append_assoc, rs_last]
    show (if (rs txt (rows ++ more) r p).isSome then some p else none) = _
    rw [hden.2 p]; rfl
theorem part_bare (t : Tr) (hb : t.bare = true) (IH : ChoiceSpec prog w txt nm t) : PartSpec prog w txt nm t := by
  intro A env g L m news s R told tk u pre post ex l d rows D G F N hdep hhan ht hst hlen hsz hw hR hex hH hdl hok hret
  obtain ⟨h', gn, dr, tk0, os0⟩ := s
  have hsp := t.size_pos
  have hcs : t.csize = t.size - 1 := by simp [Tr.csize, hb]
  rw [render_bare hb] at ht
  refine enterN G F N (by k_is) (by k_is) (by omega) (binds := [("told", .str told tk), ("at", .int (nI pre.length) u), ("rows", .ref l), ("homes", .ref d)]) (BindsTo.of_eq rfl) (locs rfl) (fun g' L' h' G' keep F N lt => ?_) (by decide) rfl rfl rfl
  have ⟨X, ⟨p, loose, mean, mg, mb, T⟩, _, _, _⟩ := G'
  have h0 : told.cps.toList[pre.length]? = some 40 := by rw [ht]; simp
  have hl0 : told.cps.toList.length ≤ 100000 := by simpa using hlen
  have hpl : pre.length < 100000 := by rw [ht] at hl0; simp at hl0; omega
  repeat kp_kind "s"
  first | with_reducible refine r_chr (c := 40) h0 (by omega) ?_ | refine r_chr (c := 40) h0 (by omega) ?_
  repeat kp_kind "s"
  refine r_newTuple F N (by show 2 ≤ sizeLine; decide) (fun a1 h' F N l1 => ?_)
  refine in_tuple_strs (News.isTup N (.head _)) (.cons _ _ (.cons _ _ .nil)) ?_
  repeat kp_kind "s"
  refine itF (by decide) ?_
  repeat kp_kind "s"
  first | with_reducible refine r_chr (c := 40) h0 (by omega) ?_ | refine r_chr (c := 40) h0 (by omega) ?_
  repeat kp_kind "s"
  first | with_reducible refine eq_str ?_ | refine eq_str ?_
  repeat kp_kind "s"
  first | with_reducible refine itT (by decide) ?_ | refine itT (by decide) ?_
  repeat kp_kind "s"
  first | with_reducible refine r_add (c := nI (pre ++ [40]).length) (by simp) ?_ | refine r_add (c := nI (pre ++ [40]).length) (by simp) ?_
  repeat kp_kind "s"
  refine IH G' F N (by rw [depth_deeper, hcs]; omega) hhan (pre := pre ++ [40]) (post := 41 :: post) (by rw [ht]; simp) (.inr ⟨_, rfl⟩) hlen (by omega) hw (hR.sup fun p hp => .tail _ hp) (hex.sup fun p hp => .tail _ hp) (hH.mono hdl fun p hp _ => .tail _ hp) hdl hok
    (fun a2 r t1 t2 more h' tk1 news2 F N sub hR hml hden hm2 => ?_)
  repeat kp_kind "s"
  refine unpackN_ F N (News.isTup N hm2) hhan rfl rfl (fun h' F N => ?_)
  repeat kp_kind "s"
  first | with_reducible refine r_add (c := nI (pre.length + (render t).length)) (by rw [render_bare hb]; simp; omega) ?_ | refine r_add (c := nI (pre.length + (render t).length)) (by rw [render_bare hb]; simp; omega) ?_
  repeat kp_kind "s"
  refine r_newTuple F N (by show 2 ≤ sizeLine; decide) (fun a5 h' F N l5 => ?_)
  kp_kind "k"
  refine hret a5 r t1 _ more h' _ _ F N ?_ ?_ hml hden (.head _)
  · exact fun p hp hn => .tail _ (sub p (.tail _ hp) hn)
  · exact hR.sup fun p hp => List.mem_cons_of_mem _ hp
end
end Vy
end
section
open PyProof.V
namespace Vy
section
variable {prog : Program} {w : World} {txt : List Nat} {nm : Nat → Nat → Option Nat}
theorem part_name (k : Nat) : PartSpec prog w txt nm (.name k) := by
  intro A env g L m news s R told tk u pre post ex l d rows D G F N hdep hhan ht hst hlen hsz hw hR hex hH hdl hok hret
  obtain ⟨h', gn, dr, tk0, os0⟩ := s
  simp only [Tr.size] at hdep hsz
  refine enterN G F N (by k_is) (by k_is) (by omega) (binds := [("told", .str told tk), ("at", .int (nI pre.length) u), ("rows", .ref l), ("homes", .ref d)]) (BindsTo.of_eq rfl) (locs rfl) (fun g' L' h' G' keep F N lt => ?_) (by decide) rfl rfl rfl
  have ⟨X, ⟨p, loose, mean, mg, mb, T⟩, _, _, _⟩ := G'
  obtain ⟨hk10, r, hlk, hden⟩ := hok k (.head _)
  have ht' : told.cps.toList = pre ++ (110 :: (48 + k) :: post) := by rw [ht]; simp [render]
  have h0 : told.cps.toList[pre.length]? = some 110 := by rw [ht']; simp
  have h1 : told.cps.toList[pre.length + 1]? = some (48 + k) := by rw [ht', List.getElem?_append_right (by omega)]; simp
  have hl0 : told.cps.toList.length ≤ 100000 := by simpa using hlen
  have hll : told.length = pre.length + 2 + post.length := by
    have : told.length = told.cps.toList.length := by simp [Str.length]
    rw [this, ht']; simp; omega
  have hlt0 : told.length ≤ 100000 := hlen
  have hpl : pre.length + 2 ≤ 100000 := by rw [ht'] at hl0; simp at hl0; omega
  repeat kp_kind "s"
  first | with_reducible refine r_chr (c := 110) h0 (by omega) ?_ | refine r_chr (c := 110) h0 (by omega) ?_
  repeat kp_kind "s"
  refine r_newTuple F N (by show 2 ≤ sizeLine; decide) (fun a1 h' F N l1 => ?_)
  refine in_tuple_strs (News.isTup N (.head _)) (.cons _ _ (.cons _ _ .nil)) ?_
  repeat kp_kind "s"
  refine itF (by decide) ?_
  repeat kp_kind "s"
  first | with_reducible refine r_chr (c := 110) h0 (by omega) ?_ | refine r_chr (c := 110) h0 (by omega) ?_
  repeat kp_kind "s"
  first | with_reducible refine eq_str ?_ | refine eq_str ?_
  repeat kp_kind "s"
  refine itF (by decide) ?_
  repeat kp_kind "s"
  first | with_reducible refine r_chr (c := 110) h0 (by omega) ?_ | refine r_chr (c := 110) h0 (by omega) ?_
  repeat kp_kind "s"
  refine r_newTuple F N (by show 2 ≤ sizeLine; decide) (fun a2 h' F N l2 => ?_)
  refine in_tuple_strs (News.isTup N (.head _)) (.cons _ _ (.cons _ _ .nil)) ?_
  repeat kp_kind "s"
  refine itF (by decide) ?_
  repeat kp_kind "s"
  refine While_inv (fun n m₁ news₁ => ∃ i, i ≤ 2 ∧ n = 2 - i ∧ _ = news₁ ∧ m₁ "told" = some (.str told tk) ∧ m₁ "at" = some (.int (nI pre.length) u) ∧ m₁ "homes" = some (.ref d) ∧
     LInt m₁ "end" (nI (pre.length + i))) F N ⟨0, by omega, rfl, rfl, by kp_kind "lk", by kp_kind "lk", by kp_kind "lk", ⟨_, by kp_kind "lk"⟩⟩ ?_ PassesOwn.never
  rintro n m₁ news₁ h' tk₁ F N ⟨i, hi, rfl, rfl, m1, m2, m3, ⟨t4, m4⟩⟩
  refine wpAny_mono (Q := fun b s₂ => b = decide (i < 2) ∧ ∃ tk', s₂ = ⟨h', gn, dr, tk', os0⟩) ?_ ?_ (fun _ _ e => e)
  · first | with_reducible refine isTrue_and ?_ | refine isTrue_and ?_
    repeat kp_kind "s"
    first | with_reducible refine r_lenS (by omega) (fun t5 tkk => ?_) | refine r_lenS (by omega) (fun t5 tkk => ?_)
    first | with_reducible refine lt_int ?_ | refine lt_int ?_
    repeat kp_kind "s"
    have hcase : (i = 2 ∧ post = []) ∨ ∃ c, told.cps.toList[pre.length + i]? = some c ∧ decide (c ∈ (Str.ofString "n0123456789").cps.toList) = decide (i < 2) := by
      by_cases hi0 : i = 0
      · subst hi0; exact .inr ⟨110, h0, by decide⟩
      by_cases hi1 : i = 1
      · subst hi1; refine .inr ⟨48 + k, h1, ?_⟩
        have : ∀ k < 10, decide (48 + k ∈ (Str.ofString "n0123456789").cps.toList) = true := by decide
        exact this k hk10
      have hi2 : i = 2 := by omega
      subst hi2
      rcases hst with rfl | ⟨c, r', rfl, hc⟩
      · exact .inl ⟨rfl, rfl⟩
      · refine .inr ⟨c, by rw [ht', List.getElem?_append_right (by omega)]; simp, ?_⟩
        rcases hc with rfl | rfl <;> decide
    rcases hcase with ⟨rfl, rfl⟩ | ⟨c, hc, hb⟩
    · refine itF (by rw [hll]; simp [nI]) ?_
      exact ⟨by decide, _, rfl⟩
    · have hlt : pre.length + i < told.cps.toList.length := by
        rcases Nat.lt_or_ge (pre.length + i) told.cps.toList.length with h | h
        · exact h
        · rw [List.getElem?_eq_none h] at hc; cases hc
      refine itT (by have : told.length = told.cps.toList.length := by simp [Str.length]
                     rw [this]; simp only [nI, decide_eq_true_eq]; omega) ?_
      first | with_reducible refine isTrue_and ?_ | refine isTrue_and ?_
      repeat kp_kind "s"
      first | with_reducible refine r_chr (c := c) hc (by omega) ?_ | refine r_chr (c := c) hc (by omega) ?_
      repeat kp_kind "s"
      first | with_reducible refine r_inS hb ?_ | refine r_inS hb ?_
      repeat kp_kind "s"
      by_cases h2 : i < 2
      · first | with_reducible refine itT (by simpa using h2) ?_ | refine itT (by simpa using h2) ?_
        refine isTrue_and_nil ?_
        exact ⟨by simp [h2], _, rfl⟩
      · refine itF (by simpa using h2) ?_
        exact ⟨by simp [h2], _, rfl⟩
  · rintro b s₂ ⟨rfl, tk', rfl⟩
    by_cases h2 : i < 2
    · first | with_reducible refine itT (by simpa using h2) ?_ | refine itT (by simpa using h2) ?_
      repeat kp_kind "s"
      first | with_reducible refine r_iadd (c := nI (pre.length + (i + 1))) (by simp only [nI]; omega) ?_ | refine r_iadd (c := nI (pre.length + (i + 1))) (by simp only [nI]; omega) ?_
      repeat kp_kind "s"
      exact WhileStep.intro F N (n' := 2 - (i + 1)) (by omega) ⟨i + 1, by omega, rfl, rfl, by kp_kind "lk", by kp_kind "lk", by kp_kind "lk", ⟨_, by kp_kind "lk"⟩⟩
    · refine itF (by simpa using h2) ?_
      have hi2 : i = 2 := by omega
      subst hi2
      repeat kp_kind "s"
      refine r_slice (tk := _) F N (by omega) (by rw [ht']; simp) (by omega) (z := [110, 48 + k]) (by rw [ht', show pre.length + 2 - pre.length = 2 from by omega]; simp) (fun h' t6 tkk F N => ?_)
      obtain ⟨o, kvs, mh, hd1, hd2, hd3⟩ := hH
      refine item_strTab (TabAt.ofNews N (d := d) (o := o) (by kp_kind "mem") hd3 hd1 hd2) hlk (fun v hv => ?_)
      obtain ⟨t7, rfl⟩ := Flat.int_inv hv
      repeat kp_kind "s"
      refine r_newTuple F N (by show 2 ≤ sizeLine; decide) (fun a5 h' F N l5 => ?_)
      kp_kind "k"
      refine hret a5 r t7 _ [] h' _ _ F N ?_ ?_ (by simp) ?_ (.head _)
      · exact fun p hp hn => by kp_kind "mem"
      · rw [List.append_nil]; exact hR.sup fun p hp => by kp_kind "mem"
      · rw [List.append_nil]; exact hden
end
end Vy
end
section
open PyProof.V
namespace Vy
section
variable {prog : Program} {w : World} {txt : List Nat} {nm : Nat → Nat → Option Nat}
theorem aw_sup {n : Led} {p : Addr × Obj} {as : List Addr} {bs : List (List Nat)} (h : All2 (ListI n) as bs) : All2 (ListI (p :: n)) as bs := h.mono fun a b q => q.monoO fun p hp _ _ => .tail _ hp
theorem choice_spec (t : Tr) (IH : ∀ t', some t' ∈ t.inner → PartSpec prog w txt nm t') : ChoiceSpec prog w txt nm t := by
  intro A env g L m news s R told tk u pre post ex l d rows D G F N hdep hhan ht hst hlen hsz hw hR hex hH hdl hok hret
  obtain ⟨h', gn, dr, tk0, os0⟩ := s
  refine enterN G F N (by k_is) (by k_is) (by omega) (binds := [("told", .str told tk), ("at", .int (nI pre.length) u), ("rows", .ref l), ("homes", .ref d)]) (BindsTo.of_eq rfl) (locs rfl) (fun g' L' h' G' keep F N lt => ?_) (by decide) rfl rfl rfl
  have ⟨X, ⟨p, loose, mean, mg, mb, T⟩, _, _, _⟩ := G'
  rw [← toks_text] at ht
  have hl0 : told.cps.toList.length ≤ 100000 := by simpa using hlen
  have hlt0 : told.length ≤ 100000 := hlen
  have hlt1 : told.length = told.cps.toList.length := by simp [Str.length]
  have hpl : pre.length + (txtOf (toks t.inner)).length + post.length = told.length := by rw [hlt1, ht]; simp [Nat.add_assoc]
  obtain ⟨hlex, vs0, n0, ml0, al0, wf0⟩ := id hR
  repeat kp_kind "s"
  refine r_newList F N (by simp) (fun c0 h' F N lc0 => ?_)
  repeat kp_kind "s"
  refine r_newList F N (by simp; decide) (fun W h' F N lW => ?_)
  have hWx : W ∉ ex := (hex.sup fun p hp => .tail _ hp).out lW
  have hcx : c0 ∉ ex := hex.out lc0
  have hcW : c0 ≠ W := Nat.ne_of_lt (lW (c0, listOf (List.toArray []) 0) (.head _))
  repeat kp_kind "s"
  refine While_inv (fun n m₁ news₁ => ∃ done rest cl cur more, toks t.inner = done ++ rest ∧ n = rest.length ∧ done.foldl stepT ([], []) = (cl, cur) ∧
      m₁ "told" = some (.str told tk) ∧ m₁ "rows" = some (.ref l) ∧ m₁ "homes" = some (.ref d) ∧ m₁ "ways" = some (.ref W) ∧ LInt m₁ "at" (nI (pre ++ txtOf done).length) ∧
      more.length ≤ 2 * szs done ∧ (∀ p ∈ news, p.1 ≠ l → p ∈ news₁) ∧ WaysJ txt nm news news₁ ex l W (rows ++ more) cl cur)
    F N ⟨[], toks t.inner, [], [], [], rfl, rfl, rfl, by kp_kind "lk", by kp_kind "lk", by kp_kind "lk", by kp_kind "lk", ⟨_, by simp only [txtOf, List.flatMap_nil, List.append_nil]; kp_kind "lk"⟩,
      by simp, fun p hp _ => .tail _ (.tail _ hp),
      [], [], c0, [], [], 0, 0, .head _, .tail _ (.head _), .nil, .nil, .nil, .nil, (fun _ h => (nomatch h)), (fun b hb => by simp at hb; subst hb; simp [hcW, hcx]), hWx,
      by
        rw [List.append_nil]
        refine (hR.ex (by simp [hlex]) (fun e he => ?_)).sup fun p hp => .tail _ (.tail _ hp)
        simp only [List.nil_append, List.mem_cons] at he
        rcases he with rfl | rfl | he
        · exact .inr fun p hp => Nat.ne_of_lt (lc0 p hp)
        · exact .inr fun p hp => Nat.ne_of_lt (lW p (.tail _ hp))
        · exact .inl he, hex.sup fun p hp => .tail _ (.tail _ hp), (fun b hb p hp => by simp at hb; subst hb; exact Nat.ne_of_lt (lc0 p hp))⟩ ?_ PassesOwn.never
  rintro n m₁ news₁ h' tk₁ F N ⟨done, rest, cl, cur, more, hdr, rfl, hfold, m1, m2, m3, m4, ⟨t4, m5⟩, hml, sub, hW⟩
  have hokT : okT rest := okT.drop (a := done) (hdr ▸ okT_toks _)
  have htx : told.cps.toList = (pre ++ txtOf done) ++ (txtOf rest ++ post) := by rw [ht, hdr]; simp [txtOf]
  have hlen2 : (pre ++ txtOf done).length + (txtOf rest).length + post.length = told.length := by rw [hlt1, htx]; simp [Nat.add_assoc]
  have hnext : (rest = [] ∧ (post = [] ∨ told.cps.toList[(pre ++ txtOf done).length]? = some 41)) ∨
      ∃ a r c, rest = a :: r ∧ told.cps.toList[(pre ++ txtOf done).length]? = some c ∧ c ≠ 41 ∧ (a = none → c = 32) ∧ (a = some none → c = 47) ∧ (∀ x, a = some (some x) → c ≠ 32 ∧ c ≠ 47) := by
    have at0 : ∀ k, told.cps.toList[(pre ++ txtOf done).length + k]? = (txtOf rest ++ post)[k]? := fun k => by
      rw [htx, List.getElem?_append_right (by omega)]; congr 1; omega
    have at00 := at0 0
    rw [Nat.add_zero] at at00
    cases rest with
    | nil =>
      refine .inl ⟨rfl, ?_⟩
      rcases hst with rfl | ⟨r, rfl⟩
      · exact .inl rfl
      · exact .inr (at00.trans (by simp [txtOf]))
    | cons a r =>
      right
      match a with
      | none => exact ⟨none, r, 32, rfl, at00.trans (by simp [txtOf, tokText]), by decide, fun _ => rfl, fun e => (by cases e), fun x e => by cases e⟩
      | some none => exact ⟨some none, r, 47, rfl, at00.trans (by simp [txtOf, tokText, itemText]), by decide, fun e => (by cases e), fun _ => rfl, fun x e => by cases e⟩
      | some (some x) =>
        obtain ⟨c, q, e, h1, h2, h3⟩ := render_head x
        exact ⟨_, r, c, rfl, at00.trans (by simp [txtOf, tokText, itemText, e]), h1, fun e => (by cases e), fun e => (by cases e), fun _ _ => ⟨h2, h3⟩⟩
  refine wpAny_mono (Q := fun b s₂ => b = !rest.isEmpty ∧ ∃ tk', s₂ = ⟨h', gn, dr, tk', os0⟩) ?_ ?_ (fun _ _ e => e)
  · first | with_reducible refine isTrue_and ?_ | refine isTrue_and ?_
    repeat kp_kind "s"
    first | with_reducible refine r_lenS (by omega) (fun t5 tkk => ?_) | refine r_lenS (by omega) (fun t5 tkk => ?_)
    first | with_reducible refine lt_int ?_ | refine lt_int ?_
    repeat kp_kind "s"
    have cont : ∀ c, told.cps.toList[(pre ++ txtOf done).length]? = some c → (decide ((nI (pre ++ txtOf done).length : Int) < (told.length : Int))) = true := fun c hc => by
      have hlt : (pre ++ txtOf done).length < told.cps.toList.length := by
        rcases Nat.lt_or_ge (pre ++ txtOf done).length told.cps.toList.length with h | h
        · exact h
        · rw [List.getElem?_eq_none h] at hc; cases hc
      rw [hlt1]; simp only [nI, decide_eq_true_eq]; omega
    rcases hnext with ⟨rfl, rfl | hc⟩ | ⟨a, r, c, rfl, hc, h41, _⟩
    · refine itF (by simp [txtOf] at hlen2; simp [nI, txtOf]; omega) ?_
      exact ⟨rfl, _, rfl⟩
    · first | with_reducible refine itT (cont _ hc) ?_ | refine itT (cont _ hc) ?_
      first | with_reducible refine isTrue_and ?_ | refine isTrue_and ?_
      repeat kp_kind "s"
      first | with_reducible refine r_chr (c := 41) hc (by omega) ?_ | refine r_chr (c := 41) hc (by omega) ?_
      repeat kp_kind "s"
      first | with_reducible refine ne_str ?_ | refine ne_str ?_
      repeat kp_kind "s"
      refine itF (by decide) ?_
      exact ⟨rfl, _, rfl⟩
    · first | with_reducible refine itT (cont _ hc) ?_ | refine itT (cont _ hc) ?_
      first | with_reducible refine isTrue_and ?_ | refine isTrue_and ?_
      repeat kp_kind "s"
      first | with_reducible refine r_chr (c := c) hc (by omega) ?_ | refine r_chr (c := c) hc (by omega) ?_
      repeat kp_kind "s"
      first | with_reducible refine ne_str ?_ | refine ne_str ?_
      repeat kp_kind "s"
      first | with_reducible refine itT (chr_ne h41) ?_ | refine itT (chr_ne h41) ?_
      refine isTrue_and_nil ?_
      exact ⟨rfl, _, rfl⟩
  · rintro b s₂ ⟨rfl, tk', rfl⟩
    rcases hnext with ⟨rfl, _⟩ | ⟨a, r, c, rfl, hc, h41, e32, e47, eT⟩
    · refine itF (by simp) ?_
      repeat kp_kind "s"
      refine r_newList F N (by simp) (fun K h' F N lK => ?_)
      repeat kp_kind "s"
      obtain ⟨bs, ks, c1, cvs, kc, nW, nC, mW, mC, al, ia, d1, d2, hbc, hbx, hWx1, hR1, hex1, hold⟩ := hW
      have hG : groups t.inner = cl ++ [cur] := groups_toks (by rw [hdr, List.append_nil]; exact hfold)
      have alA : All2 (ListI news₁) (bs ++ [c1]) (ks ++ [kc]) := al.snoc ⟨cvs, nC, mC, ia⟩
      have dA : All2 (All2 (Den txt nm (rows ++ more))) (ks ++ [kc]) (cl ++ [cur]) := d1.snoc d2
      have hKx : K ∉ ex := hex1.out lK
      have lKne : ∀ p ∈ news₁, p.1 ≠ K := fun p hp => Nat.ne_of_lt (lK p hp)
      have hlK : l ≠ K := by obtain ⟨_, _, _, ml1, _⟩ := hR1; exact lKne _ ml1
      have hsx := extra_le t
      rw [hG] at hsx
      have hszd : szs done = szs (toks t.inner) := by rw [hdr, List.append_nil]
      have hex2 : extra (cl ++ [cur]) = ((cl ++ [cur]).map fun g => if g.length = 1 then 0 else 1).sum + (if (cl ++ [cur]).length = 1 then 0 else 1) := rfl
      have hGl : (bs ++ [c1]).length = (cl ++ [cur]).length := alA.length.trans dA.length
      refine r_iterList (J := fun I i m n => KidsJ txt nm news ex l K (rows ++ more) (cl ++ [cur]) (bs ++ [c1]) (ks ++ [kc]) (nI (pre ++ txtOf done).length) i m n) hhan (by rfl) (by rfl) F N (.tail _ mW) ?_ ?_ ?_ ?_
      · rintro I i m n n' hI hO ⟨more2, kk, kvs, nk, j1, j2, j3, hR2, hm2, mK, ik, dk, aw, sb, hx2⟩
        have hx2' : InL ex n' := fun e he => by
          obtain ⟨o, ho⟩ := hx2 e he
          obtain ⟨o', ho'⟩ := hex1 e he
          exact ⟨o, hO _ ho (.inr (by simpa using hI (e, o') (.tail _ ho')))⟩
        exact ⟨more2, kk, kvs, nk, j1, j2, j3, hR2.monoO (fun p hp _ ho => hO p hp (.inl ho)), hm2, hO _ mK (.inl (ord_list _ _)), ik, dk, aw.mono fun a b h => h.monoO fun p hp _ ho => hO p hp (.inl ho),
          fun p hp hn => hO p (sb p hp hn) (.inr (by simpa using hI p (.tail _ (sub p hp hn)))), hx2'⟩
      · intro I hI
        refine ⟨[], [], [], 0, by kp_kind "lk", by kp_kind "lk", ⟨_, by kp_kind "lk"⟩, ?_, by simp, .head _, .nil, .nil, aw_sup alA, fun p hp hn => .tail _ (sub p hp hn), hex1.sup fun p hp => .tail _ hp⟩
        rw [List.append_nil]
        refine (hR1.ex (ex' := K :: ex) (by simp [hlex]) (fun e he => ?_)).sup fun p hp => .tail _ hp
        simp only [List.mem_cons] at he
        rcases he with rfl | he
        · exact .inr lKne
        · exact .inl (by simp [he])
      · rintro I i v m₁ news2 h' tk₁ it hI hv ⟨more2, kk, kvs, nk, j1, j2, ⟨t9, j3⟩, hR2, hm2, mK, ik, dk, aw, sb, hx2⟩ mI mW2 F N
        rw [List.getElem?_map] at hv
        obtain ⟨b, hb, rfl⟩ := Option.map_eq_some_iff.mp hv
        obtain ⟨ksb, hks, vsb, nb, mb2, ib⟩ := aw.get2 i b hb
        obtain ⟨gb, hgb, dgb⟩ := dA.get2 i ksb hks
        have hil : i < (cl ++ [cur]).length := by
          rcases Nat.lt_or_ge i (cl ++ [cur]).length with h | h
          · exact h
          · rw [List.getElem?_eq_none h] at hgb; cases hgb
        have htake : (cl ++ [cur]).take (i + 1) = (cl ++ [cur]).take i ++ [gb] := by rw [List.take_add_one, hgb]; rfl
        repeat kp_kind "s"
        first | with_reducible refine listMethod_K N mK PySem.F.slot_list_append PySem.F.type_list_append ?_ | refine listMethod_K N mK PySem.F.slot_list_append PySem.F.type_list_append ?_
        repeat kp_kind "s"
        have lib := IntsAre.len' ib
        rw [List.length_map] at lib
        have lgb := dgb.length
        have likk := IntsAre.len' ik
        rw [List.length_map] at likk
        have ldk := dk.length
        rw [List.length_take] at ldk
        have lgG : gb.length ≤ 9 ∧ (cl ++ [cur]).length ≤ 10 := by
          have h1 := fold_len done [] []
          rw [hfold] at h1
          have h3 := toks_len t
          rw [hdr, List.append_nil] at h3
          have h4 := groups_len t.inner gb (by rw [hG]; exact List.mem_of_getElem? hgb)
          have h5 := inner_len t
          refine ⟨by omega, by simp at h1 ⊢; omega⟩
        have st1 := sum_take_le (fun g : List Tr => if g.length = 1 then 0 else 1) (cl ++ [cur]) i
        first | with_reducible refine r_len N mb2 (by rw [List.size_toArray, sizeLine_eq]; omega) ?_ | refine r_len N mb2 (by rw [List.size_toArray, sizeLine_eq]; omega) ?_
        repeat kp_kind "s"
        first | with_reducible refine eq_int ?_ | refine eq_int ?_
        repeat kp_kind "s"
        by_cases h1 : gb.length = 1
        · first | with_reducible refine itT (beq_iff_eq.mpr (by rw [List.size_toArray]; omega)) ?_ | refine itT (beq_iff_eq.mpr (by rw [List.size_toArray]; omega)) ?_
          repeat kp_kind "s"
          obtain ⟨x0, hgx⟩ : ∃ x0, gb = [x0] := by match gb, h1 with | [x0], _ => exact ⟨x0, rfl⟩
          subst hgx
          obtain ⟨k0, hk0⟩ : ∃ k0, ksb = [k0] := by match ksb, lgb with | [k0], _ => exact ⟨k0, rfl⟩
          subst hk0
          obtain ⟨tt, htt⟩ := IntsAre.get' ib 0 (nI k0) rfl
          first | with_reducible refine r_item (k := 0) N mb2 (by decide) htt ?_ | refine r_item (k := 0) N mb2 (by decide) htt ?_
          repeat kp_kind "s"
          refine r_append F N mK (by rw [sizeLine_eq, List.size_toArray]; omega) (fun h' F N => ?_)
          repeat kp_kind "s"
          have up : ∀ p ∈ news2, p.1 ≠ K → p ∈ put K (listOf ((List.toArray kvs).push (.int (nI k0) tt)) (nk + 1)) news2 := fun p hp hn => put_ne hp hn
          have d0 : Den txt nm (rows ++ more) k0 x0 := by cases dgb with | cons d _ => exact d
          refine ⟨h', _, _, _, rfl, F, N, up _ mI (Ne.symm (hI _ (.head _))), up _ mW2 (lKne _ mW), more2, kk ++ [k0], kvs ++ [.int (nI k0) tt], nk + 1, by kp_kind "lk", by kp_kind "lk", ⟨_, by kp_kind "lk"⟩, ?_, ?_, ?_, ?_, ?_, ?_, ?_, ?_⟩
          · exact hR2.mono fun p hp hq => up p hp fun e => hq.elim (fun h => h (by simp [e])) (fun h => hlK (h ▸ e))
          · rw [htake, List.map_append, List.sum_append]; exact Nat.le_trans hm2 (Nat.le_add_right _ _)
          · have := put_self (o' := listOf ((List.toArray kvs).push (.int (nI k0) tt)) (nk + 1)) mK; simpa using this
          · rw [List.map_append]; exact IntsAre.snoc' ik
          · rw [htake]; exact dk.snoc ((DenG.one d0).more more2)
          · exact aw.monoM fun a ha b h => h.monoO fun p hp he _ => up p hp fun e => by
              obtain ⟨_, vs, nb, hm, _⟩ := alA.left a ha; exact lKne _ hm (he.symm.trans e)
          · exact fun p hp hn => up p (sb p hp hn) (lKne p (sub p hp hn))
          · exact hx2.sub (l := K) up (put_self mK)
        · refine itF (fun e => by have := beq_iff_eq.mp e; rw [List.size_toArray] at this; omega) ?_
          repeat kp_kind "s"
          refine r_newTuple F N (by show 2 ≤ sizeLine; decide) (fun a4 h' F N l4 => ?_)
          repeat kp_kind "s"
          obtain ⟨hlex2, vs, n, m0, alr, wf⟩ := hR2
          have hvl := alr.length
          simp only [List.length_append] at hvl
          have h4K : a4 ∉ K :: ex := by
            simp only [List.mem_cons, not_or]
            exact ⟨Ne.symm (Nat.ne_of_lt (l4 _ mK)), hx2.out l4⟩
          have hbK : b ∉ K :: ex := by
            have hbm : b ∈ bs ++ [c1] := List.mem_of_getElem? hb
            simp only [List.mem_cons, not_or]
            refine ⟨?_, fun h => hbx b hbm (by simp [h])⟩
            obtain ⟨_, vs', nb', hm', _⟩ := alA.left b hbm; exact lKne _ hm'
          refine kept_spec G' F N (by rw [depth_deeper]; omega) (l := l) (its := List.toArray vs) (n := n) (by kp_kind "mem") (by simp only [List.size_toArray]; omega) (fun t3 h' tk5 F N => ?_)
          repeat kp_kind "s"
          have mK3 : ∀ q : Addr × Obj, (K, listOf (List.toArray kvs) nk) ∈ put l (listOf ((List.toArray vs).push (.ref a4)) (n + 1)) (q :: news2) := fun q => put_ne (.tail _ mK) (Ne.symm hlK)
          refine r_append F N (mK3 _) (by rw [sizeLine_eq, List.size_toArray]; omega) (fun h' F N => ?_)
          repeat kp_kind "s"
          have ev : ((List.toArray vs).size : Int) = nI (rows ++ more ++ more2).length := by rw [List.size_toArray, hvl]; simp [nI]; omega
          rw [ev] at N
          have up : ∀ {o4 : Obj}, ∀ p ∈ news2, p.1 ≠ l → p.1 ≠ K → p ∈ put K (listOf ((List.toArray kvs).push (.int (nI (rows ++ more ++ more2).length) t3)) (nk + 1)) (put l (listOf ((List.toArray vs).push (.ref a4)) (n + 1)) ((a4, o4) :: news2)) := fun {_} p hp h1 h2 => put_ne (put_ne (.tail _ hp) h1) h2
          have hIl : I ≠ l := Ne.symm (hI (l, _) (.tail _ hR1.2.choose_spec.choose_spec.1))
          have hWl : W ≠ l := fun e => hWx1 (e ▸ hlex)
          refine ⟨h', _, _, _, rfl, F, N, up _ mI hIl (Ne.symm (hI _ (.head _))), up _ mW2 hWl (lKne _ mW), more2 ++ [.all ksb], kk ++ [(rows ++ more ++ more2).length], kvs ++ [.int (nI (rows ++ more ++ more2).length) t3], nk + 1, by kp_kind "lk", by kp_kind "lk", ⟨_, by kp_kind "lk"⟩, ?_, ?_, ?_, ?_, ?_, ?_, ?_, ?_⟩
          · rw [← List.append_assoc]
            refine (RowsAt.kept (r := .all ksb) hlex2 (alr.mono fun a b q => q.mono fun p hp _ => List.mem_cons_of_mem _ hp) wf (.tail _ m0) ⟨a4, rfl, h4K, _, b, vsb, nb, hbK, .head _, .tail _ mb2, ib⟩ (fun k hk => ?_) (show ksb.length ≤ 1000 by omega)).mono fun p hp hq => put_ne hp fun e => hq.elim (fun h => h (by simp [e])) (fun h => hlK (h ▸ e))
            obtain ⟨g', hg'⟩ := dgb.left k hk
            have := hg'.1
            simp only [List.length_append] at this ⊢; omega
          · rw [htake, List.map_append, List.sum_append]; simp only [List.map_cons, List.map_nil, List.sum_cons, List.sum_nil, if_neg h1, List.length_append, List.length_cons, List.length_nil]; omega
          · have := fun q => put_self (o' := listOf ((List.toArray kvs).push (.int (nI (rows ++ more ++ more2).length) t3)) (nk + 1)) (mK3 q); simpa using this _
          · rw [List.map_append]; exact IntsAre.snoc' ik
          · rw [htake, ← List.append_assoc]
            refine (dk.mono fun _ _ d => d.more _).snoc ⟨by simp, fun p => ?_⟩
            rw [rs_last]
            exact allSem_den (dgb.mono fun _ _ d => d.more more2) p
          · exact aw.monoM fun a ha b h => h.monoO fun p hp he _ => up p hp (fun e => hbx a ha (by simp [← he, e, hlex])) fun e => by
              obtain ⟨_, vs, nb, hm, _⟩ := alA.left a ha; exact lKne _ hm (he.symm.trans e)
          · exact fun p hp hn => up p (sb p hp hn) hn (lKne p (sub p hp hn))
          · exact (hx2.sub (l := l) (fun p hp hn => put_ne (List.mem_cons_of_mem _ hp) hn) (put_self (.tail _ m0))).sub (l := K) (fun p hp hn => put_ne hp hn) (put_self (mK3 _))
      · rintro I m₁ news2 h' tk₁ hI ⟨more2, kk, kvs, nk, j1, j2, ⟨t9, j3⟩, hR2, hm2, mK, ik, dk, aw, sb, hx2⟩ F N
        refine wpAny_execs_nil ?_
        repeat kp_kind "s"
        have hi : (cl ++ [cur]).take ((bs ++ [c1]).map Value.ref).length = cl ++ [cur] := List.take_of_length_le (by rw [List.length_map, hGl]; exact Nat.le_refl _)
        rw [hi] at hm2 dk
        have likk := IntsAre.len' ik
        rw [List.length_map] at likk
        have ldk := dk.length
        have hlG : (cl ++ [cur]).length ≤ 10 := by
          have h1 := fold_len done [] []
          rw [hfold] at h1
          have h3 := toks_len t
          rw [hdr, List.append_nil] at h3
          simp at h1 ⊢; omega
        have hstop : nI (pre ++ txtOf done).length = nI (pre.length + (itemsText t.inner).length) := by
          rw [← toks_text, hdr, List.append_nil, List.length_append]
        rw [hszd] at hml
        rw [hex2] at hsx
        first | with_reducible refine r_len N mK (by rw [List.size_toArray, sizeLine_eq]; omega) ?_ | refine r_len N mK (by rw [List.size_toArray, sizeLine_eq]; omega) ?_
        repeat kp_kind "s"
        first | with_reducible refine eq_int ?_ | refine eq_int ?_
        repeat kp_kind "s"
        have hlex0 := hlex
        by_cases h1 : (cl ++ [cur]).length = 1
        · first | with_reducible refine itT (beq_iff_eq.mpr (by rw [List.size_toArray]; omega)) ?_ | refine itT (beq_iff_eq.mpr (by rw [List.size_toArray]; omega)) ?_
          repeat kp_kind "s"
          obtain ⟨k0, hk0⟩ : ∃ k0, kk = [k0] := by
            have : kk.length = 1 := by omega
            match kk, this with | [k0], _ => exact ⟨k0, rfl⟩
          subst hk0
          obtain ⟨g0, hg0⟩ : ∃ g0, cl ++ [cur] = [g0] := by
            exact List.length_eq_one_iff.mp h1
          obtain ⟨tt, htt⟩ := IntsAre.get' ik 0 (nI k0) rfl
          first | with_reducible refine r_item (k := 0) N mK (by decide) htt ?_ | refine r_item (k := 0) N mK (by decide) htt ?_
          repeat kp_kind "s"
          refine r_newTuple F N (by show 2 ≤ sizeLine; decide) (fun a5 h' F N l5 => ?_)
          kp_kind "k"
          rw [hstop] at N
          have d0 : DenG txt nm (rows ++ more ++ more2) k0 g0 := by rw [hg0] at dk; cases dk with | cons d _ => exact d
          refine hret a5 k0 tt _ (more ++ more2) h' _ _ F N ?_ ?_ ?_ ?_ (.head _)
          · exact fun p hp hn => .tail _ (sb p hp hn)
          · rw [← List.append_assoc]
            exact (hR2.ex hlex0 (fun e he => .inl (.tail _ he))).sup fun p hp => .tail _ hp
          · rw [List.length_append]; omega
          · rw [← List.append_assoc]
            exact ⟨d0.1, fun q => by rw [d0.2 q, ← altSem_one, ← hg0, ← hG, inner_sem]⟩
        · refine itF (fun e => by have := beq_iff_eq.mp e; rw [List.size_toArray] at this; omega) ?_
          repeat kp_kind "s"
          refine r_newTuple F N (by show 2 ≤ sizeLine; decide) (fun a4 h' F N l4 => ?_)
          repeat kp_kind "s"
          obtain ⟨hlex2, vs, n, m0, alr, wf⟩ := hR2
          have hvl := alr.length
          simp only [List.length_append] at hvl
          refine kept_spec G' F N (by rw [depth_deeper]; omega) (l := l) (its := List.toArray vs) (n := n) (by kp_kind "mem") (by simp only [List.size_toArray]; rw [if_neg h1] at hsx; omega) (fun t3 h' tk5 F N => ?_)
          repeat kp_kind "s"
          refine r_newTuple F N (by show 2 ≤ sizeLine; decide) (fun a5 h' F N l5 => ?_)
          kp_kind "k"
          have ev : ((List.toArray vs).size : Int) = nI (rows ++ more ++ more2).length := by rw [List.size_toArray, hvl]; simp [nI]; omega
          rw [ev, hstop] at N
          rw [if_neg h1] at hsx
          have h4x : a4 ∉ ex := hx2.out l4
          have hr0 : ∀ tq, RowsAt (put l (listOf ((List.toArray vs).push (.ref a4)) (n + 1)) ((a4, tupO [.str "any" tq, .ref K]) :: news2)) ex l (rows ++ more ++ more2 ++ [.any kk]) := fun tq => by
            refine RowsAt.kept (r := .any kk) hlex0 (alr.mono fun a b q => (q.ex (fun e he => .inl (.tail _ he))).mono fun p hp _ => List.mem_cons_of_mem _ hp) wf (.tail _ m0) ⟨a4, rfl, h4x, _, K, kvs, nk, hKx, .head _, .tail _ mK, ik⟩ (fun k hk => ?_) (show kk.length ≤ 1000 by have := dk.length; omega)
            obtain ⟨g', hg'⟩ := dk.left k hk
            have := hg'.1
            simp only [List.length_append] at this ⊢; omega
          refine hret a5 (rows ++ more ++ more2).length t3 _ (more ++ more2 ++ [.any kk]) h' _ _ F N ?_ ?_ ?_ ?_ (.head _)
          · exact fun p hp hn => .tail _ (put_ne (.tail _ (sb p hp hn)) hn)
          · rw [← List.append_assoc, ← List.append_assoc]
            exact (hr0 _).sup fun p hp => .tail _ hp
          · simp only [List.length_append, List.length_cons, List.length_nil]; omega
          · rw [← List.append_assoc, ← List.append_assoc]
            refine ⟨by simp, fun q => ?_⟩
            rw [rs_last]
            show anySem _ kk q = _
            rw [anySem_den dk q, ← hG, inner_sem]
    · first | with_reducible refine itT (by simp) ?_ | refine itT (by simp) ?_
      repeat kp_kind "s"
      first | with_reducible refine r_chr (c := c) hc (by omega) ?_ | refine r_chr (c := c) hc (by omega) ?_
      repeat kp_kind "s"
      first | with_reducible refine eq_str ?_ | refine eq_str ?_
      repeat kp_kind "s"
      match a with
      | none =>
        obtain rfl := e32 rfl
        first | with_reducible refine itT (by decide) ?_ | refine itT (by decide) ?_
        repeat kp_kind "s"
        first | with_reducible refine r_iadd (c := nI (pre ++ txtOf (done ++ [none])).length) (by simp [txtOf, tokText]; omega) ?_ | refine r_iadd (c := nI (pre ++ txtOf (done ++ [none])).length) (by simp [txtOf, tokText]; omega) ?_
        repeat kp_kind "s"
        exact WhileStep.intro F N (n' := r.length) (by simp) ⟨done ++ [none], r, cl, cur, more, by rw [hdr]; simp, rfl, by rw [List.foldl_append, hfold]; rfl, by kp_kind "lk", by kp_kind "lk", by kp_kind "lk", by kp_kind "lk", ⟨_, by kp_kind "lk"⟩,
          by rw [szs_snoc]; simpa [szT] using hml, sub, hW⟩
      | some none =>
        obtain rfl := e47 rfl
        refine itF (by decide) ?_
        repeat kp_kind "s"
        first | with_reducible refine r_chr (c := 47) hc (by omega) ?_ | refine r_chr (c := 47) hc (by omega) ?_
        repeat kp_kind "s"
        first | with_reducible refine eq_str ?_ | refine eq_str ?_
        repeat kp_kind "s"
        first | with_reducible refine itT (by decide) ?_ | refine itT (by decide) ?_
        obtain ⟨bs, ks, c1, cvs, kc, nW, nC, mW, mC, al, ia, d1, d2, hbc, hbx, hWx1, hR1, hex1, hold⟩ := hW
        have hwl := al.length
        have hkl := d1.length
        have hfl := fold_len done [] []
        rw [hfold] at hfl
        have htl := toks_len t
        rw [hdr] at htl
        simp only [List.length_append, List.length_cons, List.length_nil] at htl hfl
        repeat kp_kind "s"
        first | with_reducible refine listMethod_K N mW PySem.F.slot_list_append PySem.F.type_list_append ?_ | refine listMethod_K N mW PySem.F.slot_list_append PySem.F.type_list_append ?_
        repeat kp_kind "s"
        refine r_newList F N (by simp) (fun c2 h' F N lc2 => ?_)
        repeat kp_kind "s"
        refine r_append F N (.tail _ mW) (by rw [sizeLine_eq, List.size_toArray]; simp only [List.length_map, List.length_append, List.length_cons, List.length_nil]; omega) (fun h' F N => ?_)
        repeat kp_kind "s"
        first | with_reducible refine r_iadd (c := nI (pre ++ txtOf (done ++ [some none])).length) (by simp [txtOf, tokText, itemText]; omega) ?_ | refine r_iadd (c := nI (pre ++ txtOf (done ++ [some none])).length) (by simp [txtOf, tokText, itemText]; omega) ?_
        repeat kp_kind "s"
        have lne : ∀ p ∈ news₁, p.1 ≠ c2 := fun p hp => Nat.ne_of_lt (lc2 p hp)
        have up : ∀ p ∈ news₁, p.1 ≠ W → p ∈ put W (listOf ((List.toArray ((bs ++ [c1]).map Value.ref)).push (.ref c2)) (nW + 1)) ((c2, listOf (List.toArray []) 0) :: news₁) := fun p hp hn => put_ne (.tail _ hp) hn
        have hlx1 : l ∈ ex := hlex
        have hbW : ∀ b ∈ bs ++ [c1], b ≠ W := fun b hb e => hbx b hb (by simp [e])
        refine WhileStep.intro F N (n' := r.length) (by simp) ⟨done ++ [some none], r, cl ++ [cur], [], more, by rw [hdr]; simp, rfl, by rw [List.foldl_append, hfold]; rfl, by kp_kind "lk", by kp_kind "lk", by kp_kind "lk", by kp_kind "lk", ⟨_, by kp_kind "lk"⟩,
          by rw [szs_snoc]; simpa [szT] using hml, fun p hp hn => up p (sub p hp hn) fun e => ?_, bs ++ [c1], ks ++ [kc], c2, [], [], nW + 1, 0, ?_, put_ne (.head _) (Ne.symm (lne _ mW)), ?_, .nil, d1.snoc d2, .nil, fun b hb e => ?_, fun b hb => ?_, hWx1, ?_, hex1.sub (l := W) up (put_self (.tail _ mW)), fun b hb p hp => ?_⟩
        · exact Nat.lt_irrefl _ (e ▸ lW p (.tail _ hp))
        · have := put_self (o' := listOf ((List.toArray ((bs ++ [c1]).map Value.ref)).push (.ref c2)) (nW + 1)) (List.mem_cons_of_mem (c2, listOf (List.toArray []) 0) mW)
          simpa using this
        · refine All2.snoc ?_ ⟨cvs, nC, up _ mC (hbW c1 (by simp)), ia⟩
          exact All2.monoM al fun a ha b ⟨vs, nb, hm, hi⟩ => ⟨vs, nb, up _ hm (hbW a (by simp [ha])), hi⟩
        · rcases List.mem_append.mp hb with hb | hb
          · obtain ⟨_, vs, nb, hm, _⟩ := al.left b hb
            exact lne _ hm e
          · simp at hb; subst hb; exact lne _ mC e
        · rcases List.mem_append.mp hb with hb | hb
          · exact hbx b hb
          · simp only [List.mem_singleton] at hb; subst hb
            simp only [List.mem_cons, not_or]
            exact ⟨Ne.symm (lne _ mW), hex1.out lc2⟩
        · refine (hR1.ex (ex' := (bs ++ [c1]) ++ c2 :: W :: ex) (by simp [hlex]) (fun e he => ?_)).mono fun p hp hq => up p hp fun e => ?_
          · simp only [List.append_assoc, List.mem_append, List.mem_cons, List.not_mem_nil, or_false] at he ⊢
            rcases he with he | he | he | he | he
            · exact .inl (.inl he)
            · exact .inl (.inr (.inl he))
            · exact .inr fun p hp => he ▸ lne p hp
            · exact .inl (.inr (.inr (.inl he)))
            · exact .inl (.inr (.inr (.inr he)))
          · rcases hq with hq | hq
            · exact hq (by simp [e])
            · exact hWx1 (e ▸ hq ▸ hlex)
        · rcases List.mem_append.mp hb with hb | hb
          · exact hold b hb p hp
          · simp only [List.mem_singleton] at hb; subst hb
            by_cases q : p.1 = l
            · rw [q]; obtain ⟨_, _, _, ml1, _⟩ := hR1; exact lne _ ml1
            · exact lne p (sub p hp q)
      | some (some x) =>
        obtain ⟨e1, e2⟩ := eT x rfl
        refine itF (chr_neq e1) ?_
        repeat kp_kind "s"
        first | with_reducible refine r_chr (c := c) hc (by omega) ?_ | refine r_chr (c := c) hc (by omega) ?_
        repeat kp_kind "s"
        first | with_reducible refine eq_str ?_ | refine eq_str ?_
        repeat kp_kind "s"
        refine itF (chr_neq e2) ?_
        repeat kp_kind "s"
        have hx : some x ∈ t.inner := mem_toks (by rw [hdr]; simp)
        have hxs := inner_size hx
        have hsz3 : szs done + x.size ≤ t.size := by
          have e := inner_szs t
          rw [hdr, szs_append] at e
          have : x.size ≤ szs (some (some x) :: r) := by simp [szs, szT]
          have := t.size_pos
          split at e <;> omega
        have IHx : PartSpec prog w txt nm x := IH x hx
        obtain ⟨bs, ks, c1, cvs, kc, nW, nC, mW, mC, al, ia, d1, d2, hbc, hbx, hWx1, hR1, hex1, hold⟩ := hW
        have hlW : l ≠ W := fun e => hWx1 (e ▸ hlex)
        have hlc : ∀ b ∈ bs ++ [c1], b ≠ l := fun b hb e => hbx b hb (by simp [e, hlex])
        refine IHx G' F N (by rw [depth_deeper]; omega) hhan (pre := pre ++ txtOf done) (post := txtOf r ++ post) (by rw [htx]; simp [txtOf, tokText, itemText]) ?_ hlen (by rw [List.length_append]; omega) (fun y hy => hw y (inner_words hx y hy)) hR1 ?_ (hH.mono hdl sub) hdl ((hok.more more).sub (inner_names hx)) (fun a2 rr t1 t2 more2 h' tk1 news2 F N sub2 hR2 hml2 hden hm2 => ?_)
        · rcases hokT.1 with rfl | ⟨r', rfl⟩
          · rcases hst with rfl | ⟨q, rfl⟩
            · exact .inl rfl
            · exact .inr ⟨41, q, rfl, .inr rfl⟩
          · exact .inr ⟨32, txtOf r' ++ post, rfl, .inl rfl⟩
        · intro e he
          simp only [List.mem_append, List.mem_cons] at he
          rcases he with he | rfl | rfl | he
          · obtain ⟨_, vs, nb, hm, _⟩ := al.left e he; exact ⟨_, hm⟩
          · exact ⟨_, mC⟩
          · exact ⟨_, mW⟩
          · exact hex1 e he
        rw [show nI ((pre ++ txtOf done).length + (render x).length) = nI (pre ++ txtOf (done ++ [some (some x)])).length from by simp [txtOf, tokText, itemText]; omega] at hm2
        repeat kp_kind "s"
        refine unpackN_ F N (News.isTup N hm2) hhan rfl rfl (fun h' F N => ?_)
        repeat kp_kind "s"
        first | with_reducible refine neg_int ?_ | refine neg_int ?_
        have mW2 : (W, listOf (List.toArray (bs.map Value.ref ++ [Value.ref c1])) nW) ∈ news2 := by
          have := sub2 _ mW (Ne.symm hlW); simpa using this
        have mC2 := sub2 _ mC (hlc c1 (by simp))
        refine r_itemLast N mW2 ?_
        first | with_reducible refine listMethod_K N mC2 PySem.F.slot_list_append PySem.F.type_list_append ?_ | refine listMethod_K N mC2 PySem.F.slot_list_append PySem.F.type_list_append ?_
        repeat kp_kind "s"
        have hcv := IntsAre.len' ia
        have hkc := d2.length
        have hfl := fold_len2 done [] []
        rw [hfold] at hfl
        have htl := toks_len t
        rw [hdr] at htl
        simp only [List.length_append, List.length_cons, List.length_nil, List.length_map] at htl hfl hcv
        refine r_append F N mC2 (by rw [sizeLine_eq, List.size_toArray]; omega) (fun h' F N => ?_)
        repeat kp_kind "s"
        have up : ∀ p ∈ news₁, p.1 ≠ l → p.1 ≠ c1 → p ∈ put c1 (listOf ((List.toArray cvs).push (.int (nI rr) t1)) (nC + 1)) news2 := fun p hp h1 h2 => put_ne (sub2 p hp h1) h2
        refine WhileStep.intro F N (n' := r.length) (by simp) ⟨done ++ [some (some x)], r, cl, cur ++ [x], more ++ more2, by rw [hdr]; simp, rfl, by rw [List.foldl_append, hfold]; rfl, by kp_kind "lk", by kp_kind "lk", by kp_kind "lk", by kp_kind "lk", ⟨_, by kp_kind "lk"⟩,
          by rw [szs_snoc, List.length_append]; simp only [szT]; omega, fun p hp hn => up p (sub p hp hn) hn fun e => ?_, bs, ks, c1, cvs ++ [.int (nI rr) t1], kc ++ [rr], nW, nC + 1, ?_, ?_, ?_, ?_, ?_, ?_, hbc, hbx, hWx1, ?_, ?_, hold⟩
        · exact hold c1 (by simp) p hp e
        · exact put_ne (by simpa using mW2) (fun e => hbx c1 (by simp) (by simp [e]))
        · have := put_self (o' := listOf ((List.toArray cvs).push (.int (nI rr) t1)) (nC + 1)) mC2
          simpa using this
        · exact All2.monoM al fun a ha b ⟨vs, nb, hm, hi⟩ => ⟨vs, nb, up _ hm (hlc a (by simp [ha])) (hbc a ha), hi⟩
        · rw [List.map_append]; exact IntsAre.snoc' ia
        · rw [← List.append_assoc]; exact d1.mono fun a b h => h.mono fun _ _ d => d.more more2
        · rw [← List.append_assoc]; exact (d2.mono fun _ _ d => d.more more2).snoc hden
        · rw [← List.append_assoc]
          exact hR2.mono fun p hp hq => put_ne hp fun e => by
            rcases hq with hq | hq
            · exact hq (by simp [e])
            · exact hlc c1 (by simp) (e ▸ hq)
        · refine (hex1.sub (fun p hp hn => sub2 p hp hn) hR2.2.choose_spec.choose_spec.1).sub (l := c1) (fun p hp hn => put_ne hp hn) (put_self mC2)
end
end Vy
end
section
namespace Vy
section
variable {prog : Program} {w : World} {txt : List Nat} {nm : Nat → Nat → Option Nat}
theorem choice_of (t : Tr) (hp : t.bare = false → PartSpec prog w txt nm t) (IH : ∀ t', t'.size < t.size → PartSpec prog w txt nm t') : ChoiceSpec prog w txt nm t := by
  refine choice_spec t fun t' h => ?_
  cases hb : t.bare with
  | false =>
    rw [inner_not_bare hb] at h
    simp only [List.mem_singleton, Option.some.injEq] at h
    subst h; exact hp hb
  | true =>
    refine IH t' ?_
    cases t <;> simp [Tr.bare, Tr.inner] at hb h <;> simp only [Tr.size] <;> (rcases h with h | h <;> first | (subst h; omega) | (rcases h with h | h <;> (subst h; omega)))
theorem part_all : ∀ (n : Nat) (t : Tr), t.size ≤ n → PartSpec prog w txt nm t
  | 0, t, h => by have := t.size_pos; omega
  | n + 1, t, h => by
    have ih := part_all n
    cases hb : t.bare with
    | true => exact part_bare t hb (choice_of t (fun e => by rw [hb] at e; cases e) fun t' h' => ih t' (by omega))
    | false =>
      cases t with
      | word x => exact part_word x
      | name k => exact part_name k
      | neg a => exact part_neg a (ih a (by simp only [Tr.size] at h; omega))
      | look a => exact part_look a (ih a (by simp only [Tr.size] at h; omega))
      | _ => simp [Tr.bare] at hb
theorem choice_all (t : Tr) : ChoiceSpec prog w txt nm t := choice_of t (fun _ => part_all _ t (Nat.le_refl _)) fun t' _ => part_all _ t' (Nat.le_refl _)
end
end Vy
end
section
open PyProof.V
namespace Vy
section
variable {prog : Program} {w : World} {txt : List Nat}
/-- the ends of one row at one place -/
theorem end_spec {A : Around} {env : Env} {g : Heap} {L : Addr} {m : Str → Option Value} {news : List (Addr × Obj)} {s : Shared} {R : Result → Shared → Prop} {ex : List Addr} {v : Value} {r : Row} {e : Addr} {cols : List Value} {ne : Nat} {x : Str} {tx tp : Tok} {pp : Nat} {sm : Nat → Nat → Option Nat}
    (G : Gd w A env g L) (F : Fr g L s.heap m) (N : News g L s.heap news) (hdep : A.depth + 2 < recursionLimit) (hhan : A.handled = none)
    (hv : RowAt news ex v r) (he : (e, listOf (List.toArray cols) ne) ∈ news) (hx : x.cps.toList = txt) (hlen : txt.length ≤ 1000) (hp : pp ≤ txt.length)
    (hwl : ∀ y, r = .word y → y.length ≤ 100000) (hkl : r.kids.length ≤ 1000)
    (hk : ∀ k ∈ r.kids, k < 1000 ∧ ∃ cv, cols[k]? = some cv ∧ ColAt news cv (txt.length + 1) (sm k)) (hb : ∀ k p q, sm k p = some q → p ≤ txt.length → q ≤ txt.length)
    (hret : ∀ t h' tk news', Fr g L h' m → News g L h' news' → (∀ q ∈ news, q ∈ news') → R (.ok (.ret (.int (encE (rowSem txt sm r pp)) t))) { s with heap := h', toks := tk }) :
    codeAny (model prog w) A (.call (.ref 504) ⟨[v, .ref e, .str x tx, .int (nI pp) tp], []⟩) R s := by
  obtain ⟨h', gn, dr, tk0, os0⟩ := s
  obtain ⟨a, rfl, ha, hr⟩ := hv
  refine enterN G F N (by k_is) (by k_is) (by omega) (binds := [("row", .ref a), ("ends", .ref e), ("text", .str x tx), ("pos", .int (nI pp) tp)]) (BindsTo.of_eq rfl) (locs rfl) (fun g' L' h' G' keep F N lt => ?_) (by decide) rfl rfl rfl
  have ⟨X, ⟨p, loose, mean, mg, mb, T⟩, _, _, _⟩ := G'
  cases r with
  | word y =>
    obtain ⟨t1, t2, hm⟩ := hr
    repeat kp_kind "s"
    first | with_reducible refine r_itemT (k := 0) N hm (by decide) rfl ?_ | refine r_itemT (k := 0) N hm (by decide) rfl ?_
    repeat kp_kind "s"
    first | with_reducible refine eq_str ?_ | refine eq_str ?_
    repeat kp_kind "s"
    first | with_reducible refine itT (by decide) ?_ | refine itT (by decide) ?_
    repeat kp_kind "s"
    first | with_reducible refine r_itemT (k := 1) N hm (by decide) rfl ?_ | refine r_itemT (k := 1) N hm (by decide) rfl ?_
    repeat kp_kind "s"
    have hyl := hwl y rfl
    have hSy : (S y).length = y.length := S_len _
    first | with_reducible refine r_lenS (by omega) (fun t5 tkk => ?_) | refine r_lenS (by omega) (fun t5 tkk => ?_)
    first | with_reducible refine r_add (c := nI (pp + y.length)) (by rw [hSy]; simp [nI]) ?_ | refine r_add (c := nI (pp + y.length)) (by rw [hSy]; simp [nI]) ?_
    repeat kp_kind "s"
    first | with_reducible refine r_sliceAny F N (by omega) (by rw [hx]; exact hp) (by rw [show x.length = x.cps.toList.length from by simp [Str.length], hx]; omega) (by rw [hx, Nat.add_sub_cancel_left]) (fun h' t6 tkk F N => ?_) | refine r_sliceAny F N (by omega) (by rw [hx]; exact hp) (by rw [show x.length = x.cps.toList.length from by simp [Str.length], hx]; omega) (by rw [hx, Nat.add_sub_cancel_left]) (fun h' t6 tkk F N => ?_)
    repeat kp_kind "s"
    first | with_reducible refine r_itemT (k := 1) N hm (by decide) rfl ?_ | refine r_itemT (k := 1) N hm (by decide) rfl ?_
    repeat kp_kind "s"
    first | with_reducible refine eq_str ?_ | refine eq_str ?_
    repeat kp_kind "s"
    have hse : (S ((txt.drop pp).take y.length) == S y) = decide ((txt.drop pp).take y.length = y) := by
      rw [Bool.eq_iff_iff, beq_iff_eq, decide_eq_true_eq]
      exact ⟨fun e => by simpa [S] using congrArg (fun z => z.cps.toList) e, fun e => by rw [e]⟩
    by_cases hc : (txt.drop pp).take y.length = y
    · first | with_reducible refine itT (by rw [hse]; exact decide_eq_true hc) ?_ | refine itT (by rw [hse]; exact decide_eq_true hc) ?_
      repeat kp_kind "s"
      first | with_reducible refine r_itemT (k := 1) N hm (by decide) rfl ?_ | refine r_itemT (k := 1) N hm (by decide) rfl ?_
      repeat kp_kind "s"
      first | with_reducible refine r_lenS (by omega) (fun t7 tkk => ?_) | refine r_lenS (by omega) (fun t7 tkk => ?_)
      first | with_reducible refine r_add (c := nI (pp + y.length)) (by rw [hSy]; simp [nI]) ?_ | refine r_add (c := nI (pp + y.length)) (by rw [hSy]; simp [nI]) ?_
      kp_kind "k"
      have := hret
      simp only [rowSem, wordAt, if_pos hc, encE] at this
      exact this _ _ _ _ F N fun _ h => h
    · refine itF (by rw [hse]; simpa using hc) ?_
      repeat kp_kind "s"
      first | with_reducible refine neg_int ?_ | refine neg_int ?_
      kp_kind "k"
      have := hret
      simp only [rowSem, wordAt, if_neg hc, encE] at this
      exact this _ _ _ _ F N fun _ h => h
  | all ks =>
    obtain ⟨t1, b, vs, n, hbx, hm, hmb, hint⟩ := hr
    repeat kp_kind "s"
    first | with_reducible refine r_itemT (k := 0) N hm (by decide) rfl ?_ | refine r_itemT (k := 0) N hm (by decide) rfl ?_
    repeat kp_kind "s"
    first | with_reducible refine eq_str ?_ | refine eq_str ?_
    repeat kp_kind "s"
    refine itF (by decide) ?_
    repeat kp_kind "s"
    first | with_reducible refine r_itemT (k := 0) N hm (by decide) rfl ?_ | refine r_itemT (k := 0) N hm (by decide) rfl ?_
    repeat kp_kind "s"
    first | with_reducible refine eq_str ?_ | refine eq_str ?_
    repeat kp_kind "s"
    first | with_reducible refine itT (by decide) ?_ | refine itT (by decide) ?_
    repeat kp_kind "s"
    first | with_reducible refine r_itemT (k := 1) N hm (by decide) rfl ?_ | refine r_itemT (k := 1) N hm (by decide) rfl ?_
    repeat kp_kind "s"
    refine r_iterList (J := fun I i m n => ∃ q, LInt m "pos" (nI q) ∧ m "ends" = some (.ref e) ∧ q ≤ txt.length ∧ allSem sm (ks.drop i) q = allSem sm ks pp ∧ ∀ p ∈ news, p ∈ n) hhan (by rfl) (by rfl) F N hmb ?_ ?_ ?_ ?_
    · rintro I i m n n' hI hO ⟨q, j1, j2, j3, j4, sb⟩
      exact ⟨q, j1, j2, j3, j4, fun p hp => hO p (sb p hp) (.inr (by simpa using hI p hp))⟩
    · intro I hI
      exact ⟨pp, ⟨_, by kp_kind "lk"⟩, by kp_kind "lk", hp, rfl, fun _ h => h⟩
    · rintro I i v m₁ news2 h' tk₁ it hI hv ⟨q, ⟨t9, j1⟩, j2, j3, j4, sb⟩ mI mW2 F N
      have hil : i < ks.length := by
        have := IntsAre.len' hint
        rw [List.length_map] at this
        rcases Nat.lt_or_ge i vs.length with h | h
        · omega
        · rw [List.getElem?_eq_none h] at hv; cases hv
      obtain ⟨tk3, hv3⟩ := IntsAre.get' hint i (nI ks[i]) (by simp [hil])
      rw [hv3] at hv
      cases hv
      repeat kp_kind "s"
      obtain ⟨hkk, cv, hcv, hcol⟩ := hk ks[i] (List.getElem_mem hil)
      obtain ⟨cb, cvs, cn, rfl, hmcb, hget⟩ := hcol.get
      obtain ⟨t3, hg3⟩ := hget q (by omega)
      first | with_reducible refine r_item (k := ks[i]) N (sb _ he) (by omega) hcv ?_ | refine r_item (k := ks[i]) N (sb _ he) (by omega) hcv ?_
      repeat kp_kind "s"
      first | with_reducible refine r_itemD (k := q) N (sb _ hmcb) (by omega) hg3 ?_ | refine r_itemD (k := q) N (sb _ hmcb) (by omega) hg3 ?_
      repeat kp_kind "s"
      first | with_reducible refine lt_int ?_ | refine lt_int ?_
      repeat kp_kind "s"
      rw [List.drop_eq_getElem_cons hil] at j4
      have hlt : decide (encE (sm ks[i] q) < 0) = !(sm ks[i] q).isSome := encE_lt _
      cases hs : sm ks[i] q with
      | none =>
        rw [hs] at hlt
        first | with_reducible refine itT (by rw [hlt]; rfl) ?_ | refine itT (by rw [hlt]; rfl) ?_
        repeat kp_kind "s"
        first | with_reducible refine neg_int ?_ | refine neg_int ?_
        kp_kind "k"
        have hz : rowSem txt sm (.all ks) pp = none := by
          show allSem sm ks pp = none
          rw [← j4]; show (sm ks[i] q).bind _ = none; rw [hs]; rfl
        rw [hz] at hret
        exact hret _ _ _ _ F N sb
      | some q' =>
        rw [hs] at hlt
        refine itF (by rw [hlt]; simp) ?_
        repeat kp_kind "s"
        refine ⟨h', _, _, _, rfl, F, N, mI, mW2, q', ⟨t3, ?_⟩, by kp_kind "lk", hb _ _ _ hs j3, ?_, sb⟩
        · rw [show nI q' = encE (sm ks[i] q) from by rw [hs]; rfl]; kp_kind "lk"
        · rw [← j4]; show _ = (sm ks[i] q).bind _; rw [hs]; rfl
    · rintro I m₁ news2 h' tk₁ hI ⟨q, ⟨t9, j1⟩, j2, j3, j4, sb⟩ F N
      refine wpAny_execs_nil ?_
      repeat kp_kind "s"
      kp_kind "k"
      have hz : rowSem txt sm (.all ks) pp = some q := by
        show allSem sm ks pp = some q
        have hl := IntsAre.len' hint
        rw [List.length_map] at hl
        rw [← j4, hl, List.drop_length]; rfl
      rw [hz] at hret
      exact hret _ _ _ _ F N sb
  | any ks =>
    obtain ⟨t1, b, vs, n, hbx, hm, hmb, hint⟩ := hr
    repeat kp_kind "s"
    first | with_reducible refine r_itemT (k := 0) N hm (by decide) rfl ?_ | refine r_itemT (k := 0) N hm (by decide) rfl ?_
    repeat kp_kind "s"
    first | with_reducible refine eq_str ?_ | refine eq_str ?_
    repeat kp_kind "s"
    refine itF (by decide) ?_
    repeat kp_kind "s"
    first | with_reducible refine r_itemT (k := 0) N hm (by decide) rfl ?_ | refine r_itemT (k := 0) N hm (by decide) rfl ?_
    repeat kp_kind "s"
    first | with_reducible refine eq_str ?_ | refine eq_str ?_
    repeat kp_kind "s"
    refine itF (by decide) ?_
    repeat kp_kind "s"
    first | with_reducible refine r_itemT (k := 0) N hm (by decide) rfl ?_ | refine r_itemT (k := 0) N hm (by decide) rfl ?_
    repeat kp_kind "s"
    first | with_reducible refine eq_str ?_ | refine eq_str ?_
    repeat kp_kind "s"
    first | with_reducible refine itT (by decide) ?_ | refine itT (by decide) ?_
    repeat kp_kind "s"
    first | with_reducible refine r_itemT (k := 1) N hm (by decide) rfl ?_ | refine r_itemT (k := 1) N hm (by decide) rfl ?_
    repeat kp_kind "s"
    refine r_iterList (J := fun I i m n => m "pos" = some (.int (nI pp) tp) ∧ m "ends" = some (.ref e) ∧ anySem sm (ks.drop i) pp = anySem sm ks pp ∧ ∀ p ∈ news, p ∈ n) hhan (by rfl) (by rfl) F N hmb ?_ ?_ ?_ ?_
    · rintro I i m n n' hI hO ⟨j1, j2, j4, sb⟩
      exact ⟨j1, j2, j4, fun p hp => hO p (sb p hp) (.inr (by simpa using hI p hp))⟩
    · intro I hI
      exact ⟨by kp_kind "lk", by kp_kind "lk", rfl, fun _ h => h⟩
    · rintro I i v m₁ news2 h' tk₁ it hI hv ⟨j1, j2, j4, sb⟩ mI mW2 F N
      have hil : i < ks.length := by
        have := IntsAre.len' hint
        rw [List.length_map] at this
        rcases Nat.lt_or_ge i vs.length with h | h
        · omega
        · rw [List.getElem?_eq_none h] at hv; cases hv
      obtain ⟨tk3, hv3⟩ := IntsAre.get' hint i (nI ks[i]) (by simp [hil])
      rw [hv3] at hv
      cases hv
      repeat kp_kind "s"
      obtain ⟨hkk, cv, hcv, hcol⟩ := hk ks[i] (List.getElem_mem hil)
      obtain ⟨cb, cvs, cn, rfl, hmcb, hget⟩ := hcol.get
      obtain ⟨t3, hg3⟩ := hget pp (by omega)
      first | with_reducible refine r_item (k := ks[i]) N (sb _ he) (by omega) hcv ?_ | refine r_item (k := ks[i]) N (sb _ he) (by omega) hcv ?_
      repeat kp_kind "s"
      first | with_reducible refine r_itemD (k := pp) N (sb _ hmcb) (by omega) hg3 ?_ | refine r_itemD (k := pp) N (sb _ hmcb) (by omega) hg3 ?_
      repeat kp_kind "s"
      first | with_reducible refine PyProof.Rows.ge_int ?_ | refine PyProof.Rows.ge_int ?_
      repeat kp_kind "s"
      rw [List.drop_eq_getElem_cons hil] at j4
      have hge : decide ((0 : Int) ≤ encE (sm ks[i] pp)) = (sm ks[i] pp).isSome := encE_ge _
      cases hs : sm ks[i] pp with
      | none =>
        rw [hs] at hge
        refine itF (by rw [hge]; simp) ?_
        repeat kp_kind "s"
        refine ⟨h', _, _, _, rfl, F, N, mI, mW2, by kp_kind "lk", by kp_kind "lk", ?_, sb⟩
        rw [← j4]; show _ = (sm ks[i] pp).or _; rw [hs]; rfl
      | some q' =>
        rw [hs] at hge
        first | with_reducible refine itT (by rw [hge]; rfl) ?_ | refine itT (by rw [hge]; rfl) ?_
        repeat kp_kind "s"
        first | with_reducible refine r_item (k := ks[i]) N (sb _ he) (by omega) hcv ?_ | refine r_item (k := ks[i]) N (sb _ he) (by omega) hcv ?_
        repeat kp_kind "s"
        first | with_reducible refine r_itemD (k := pp) N (sb _ hmcb) (by omega) hg3 ?_ | refine r_itemD (k := pp) N (sb _ hmcb) (by omega) hg3 ?_
        repeat kp_kind "s"
        kp_kind "k"
        have hz : rowSem txt sm (.any ks) pp = sm ks[i] pp := by
          show anySem sm ks pp = _
          rw [← j4]; show (sm ks[i] pp).or _ = _; rw [hs]; rfl
        rw [hz] at hret
        exact hret _ _ _ _ F N sb
    · rintro I m₁ news2 h' tk₁ hI ⟨j1, j2, j4, sb⟩ F N
      refine wpAny_execs_nil ?_
      repeat kp_kind "s"
      first | with_reducible refine neg_int ?_ | refine neg_int ?_
      kp_kind "k"
      have hz : rowSem txt sm (.any ks) pp = none := by
        show anySem sm ks pp = none
        have hl := IntsAre.len' hint
        rw [List.length_map] at hl
        rw [← j4, hl, List.drop_length]; rfl
      rw [hz] at hret
      exact hret _ _ _ _ F N sb
  | neg k =>
    obtain ⟨t1, t2, hm⟩ := hr
    repeat kp_kind "s"
    first | with_reducible refine r_itemT (k := 0) N hm (by decide) rfl ?_ | refine r_itemT (k := 0) N hm (by decide) rfl ?_
    repeat kp_kind "s"
    first | with_reducible refine eq_str ?_ | refine eq_str ?_
    repeat kp_kind "s"
    refine itF (by decide) ?_
    repeat kp_kind "s"
    first | with_reducible refine r_itemT (k := 0) N hm (by decide) rfl ?_ | refine r_itemT (k := 0) N hm (by decide) rfl ?_
    repeat kp_kind "s"
    first | with_reducible refine eq_str ?_ | refine eq_str ?_
    repeat kp_kind "s"
    refine itF (by decide) ?_
    repeat kp_kind "s"
    first | with_reducible refine r_itemT (k := 0) N hm (by decide) rfl ?_ | refine r_itemT (k := 0) N hm (by decide) rfl ?_
    repeat kp_kind "s"
    first | with_reducible refine eq_str ?_ | refine eq_str ?_
    repeat kp_kind "s"
    refine itF (by decide) ?_
    repeat kp_kind "s"
    first | with_reducible refine r_itemT (k := 1) N hm (by decide) rfl ?_ | refine r_itemT (k := 1) N hm (by decide) rfl ?_
    repeat kp_kind "s"
    obtain ⟨hkk, cv, hcv, hcol⟩ := hk k (by simp [Row.kids])
    obtain ⟨b, vs, cn, rfl, hmb, hget⟩ := hcol.get
    obtain ⟨t3, hg3⟩ := hget pp (by omega)
    first | with_reducible refine r_item (k := k) N he (by omega) hcv ?_ | refine r_item (k := k) N he (by omega) hcv ?_
    repeat kp_kind "s"
    first | with_reducible refine r_itemD (k := pp) N hmb (by omega) hg3 ?_ | refine r_itemD (k := pp) N hmb (by omega) hg3 ?_
    repeat kp_kind "s"
    first | with_reducible refine PyProof.Rows.ge_int ?_ | refine PyProof.Rows.ge_int ?_
    repeat kp_kind "s"
    first | with_reducible refine r_itemT (k := 0) N hm (by decide) rfl ?_ | refine r_itemT (k := 0) N hm (by decide) rfl ?_
    repeat kp_kind "s"
    first | with_reducible refine eq_str ?_ | refine eq_str ?_
    repeat kp_kind "s"
    first | with_reducible refine eq_bool ?_ | refine eq_bool ?_
    repeat kp_kind "s"
    have hdd : decide ((0 : Int) ≤ encE (sm k pp)) = (sm k pp).isSome := encE_ge _
    cases hs : sm k pp with
    | none =>
      rw [hs] at hdd
      first | with_reducible refine itT (by rw [hdd]; simp only [Option.isSome_none, Option.isSome_some]; decide) ?_ | refine itT (by rw [hdd]; simp only [Option.isSome_none, Option.isSome_some]; decide) ?_
      repeat kp_kind "s"
      kp_kind "k"
      have := hret
      simp only [rowSem, hs, Option.isSome_none, Option.isSome_some, if_true, if_false, encE, Bool.false_eq_true] at this
      exact this _ _ _ _ F N fun _ h => h
    | some q =>
      rw [hs] at hdd
      refine itF (by rw [hdd]; simp only [Option.isSome_none, Option.isSome_some]; decide) ?_
      repeat kp_kind "s"
      first | with_reducible refine neg_int ?_ | refine neg_int ?_
      kp_kind "k"
      have := hret
      simp only [rowSem, hs, Option.isSome_none, Option.isSome_some, if_true, if_false, encE, Bool.false_eq_true] at this
      exact this _ _ _ _ F N fun _ h => h
  | look k =>
    obtain ⟨t1, t2, hm⟩ := hr
    repeat kp_kind "s"
    first | with_reducible refine r_itemT (k := 0) N hm (by decide) rfl ?_ | refine r_itemT (k := 0) N hm (by decide) rfl ?_
    repeat kp_kind "s"
    first | with_reducible refine eq_str ?_ | refine eq_str ?_
    repeat kp_kind "s"
    refine itF (by decide) ?_
    repeat kp_kind "s"
    first | with_reducible refine r_itemT (k := 0) N hm (by decide) rfl ?_ | refine r_itemT (k := 0) N hm (by decide) rfl ?_
    repeat kp_kind "s"
    first | with_reducible refine eq_str ?_ | refine eq_str ?_
    repeat kp_kind "s"
    refine itF (by decide) ?_
    repeat kp_kind "s"
    first | with_reducible refine r_itemT (k := 0) N hm (by decide) rfl ?_ | refine r_itemT (k := 0) N hm (by decide) rfl ?_
    repeat kp_kind "s"
    first | with_reducible refine eq_str ?_ | refine eq_str ?_
    repeat kp_kind "s"
    refine itF (by decide) ?_
    repeat kp_kind "s"
    first | with_reducible refine r_itemT (k := 1) N hm (by decide) rfl ?_ | refine r_itemT (k := 1) N hm (by decide) rfl ?_
    repeat kp_kind "s"
    obtain ⟨hkk, cv, hcv, hcol⟩ := hk k (by simp [Row.kids])
    obtain ⟨b, vs, cn, rfl, hmb, hget⟩ := hcol.get
    obtain ⟨t3, hg3⟩ := hget pp (by omega)
    first | with_reducible refine r_item (k := k) N he (by omega) hcv ?_ | refine r_item (k := k) N he (by omega) hcv ?_
    repeat kp_kind "s"
    first | with_reducible refine r_itemD (k := pp) N hmb (by omega) hg3 ?_ | refine r_itemD (k := pp) N hmb (by omega) hg3 ?_
    repeat kp_kind "s"
    first | with_reducible refine PyProof.Rows.ge_int ?_ | refine PyProof.Rows.ge_int ?_
    repeat kp_kind "s"
    first | with_reducible refine r_itemT (k := 0) N hm (by decide) rfl ?_ | refine r_itemT (k := 0) N hm (by decide) rfl ?_
    repeat kp_kind "s"
    first | with_reducible refine eq_str ?_ | refine eq_str ?_
    repeat kp_kind "s"
    first | with_reducible refine eq_bool ?_ | refine eq_bool ?_
    repeat kp_kind "s"
    have hdd : decide ((0 : Int) ≤ encE (sm k pp)) = (sm k pp).isSome := encE_ge _
    cases hs : sm k pp with
    | none =>
      rw [hs] at hdd
      refine itF (by rw [hdd]; simp only [Option.isSome_none, Option.isSome_some]; decide) ?_
      repeat kp_kind "s"
      first | with_reducible refine neg_int ?_ | refine neg_int ?_
      kp_kind "k"
      have := hret
      simp only [rowSem, hs, Option.isSome_none, Option.isSome_some, if_true, if_false, encE, Bool.false_eq_true] at this
      exact this _ _ _ _ F N fun _ h => h
    | some q =>
      rw [hs] at hdd
      first | with_reducible refine itT (by rw [hdd]; simp only [Option.isSome_none, Option.isSome_some]; decide) ?_ | refine itT (by rw [hdd]; simp only [Option.isSome_none, Option.isSome_some]; decide) ?_
      repeat kp_kind "s"
      kp_kind "k"
      have := hret
      simp only [rowSem, hs, Option.isSome_none, Option.isSome_some, if_true, if_false, encE, Bool.false_eq_true] at this
      exact this _ _ _ _ F N fun _ h => h
end
end Vy
end
section
open PyProof.V PyProof.Rows.LCg
namespace Vy
theorem join2 (x a b : List Nat) : Txt.join (S x) [S a, S b] = S (a ++ (x ++ b)) := by
  show S a ++ S x ++ S b = _
  rw [S_append, S_append, List.append_assoc]
theorem join3 (x a b c : List Nat) : Txt.join (S x) [S a, S b, S c] = S (a ++ (x ++ (b ++ (x ++ c)))) := by
  show S a ++ S x ++ S b ++ S x ++ S c = _
  simp only [S_append, List.append_assoc]
theorem strsAre_of {f : Nat → List Nat} : ∀ {vs : List Value} {ks : List Nat}, vs.length = ks.length → (∀ (j : Nat) (y : Value), vs[j]? = some y → ∃ i t, ks[j]? = some i ∧ y = Value.str (S (f i)) t) → StrsAre vs (ks.map fun i => S (f i))
  | [], [], _, _ => .nil
  | v :: vs, k :: ks, hl, h => by
    obtain ⟨i, t, hi, rfl⟩ := h 0 v rfl
    cases hi
    exact .cons _ _ (strsAre_of (by simpa using hl) fun j y hj => by simpa using h (j + 1) y (by simpa using hj))
section
variable {prog : Program} {w : World} {exs : List Row}
theorem rhs_word {k : Nat} {x : List Nat} (wf : WF exs) (hk : exs[k]? = some (.word x)) : RhsSpec prog w exs k (.word x) := by
  intro A env g L m news s R ads G F N hdep hhan hex hlen hret
  obtain ⟨h', gn, dr, tk0, os0⟩ := s
  have hl := hlen k (Nat.le_refl _)
  rw [tr_eq wf hk] at hl hret
  show codeAny _ _ (.call (.ref 332) _) _ _
  refine enterN G F N (by k_is) (by k_is) (by omega) (binds := [("self", .ref (ads.getD k 0))]) (BindsTo.of_eq rfl) (locs rfl) (fun g' L' h' G' keep F N lt => ?_) (by decide) rfl rfl rfl
  have ⟨X, ⟨p, loose, mean, mg, mb, T⟩, _, _, _⟩ := G'
  obtain ⟨dx, o, m1, m2, t1, t2, it, rfl⟩ := hex k _ (Nat.le_refl _) hk
  repeat kp_kind "s"
  refine get_slot F X (inst_of N m1 m2) (by k_is) (by k_is) (by k_is) (by k_is) (by k_is) (by k_is) rfl rfl ?_
  repeat kp_kind "s"
  have hl' : (reprText (S x)).length ≤ 20000 := by have : (reprText (S x)).length = (reprText (S x)).cps.toList.length := by simp [Str.length]
                                                   rw [this]; exact hl
  refine P.repr_of_str ?_ (by rw [sizeLine_eq]; omega)
  kp_kind "k"
  have := hret h' 
  rw [show S (render (trOf (trs exs) (.word x))) = reprText (S x) from (S_of _).symm] at this
  exact this _ _ F N
theorem rhs_all {k : Nat} {ks : List Nat} (wf : WF exs) (hsh : ks.length = 2 ∨ ks.length = 3) (hk : exs[k]? = some (.all ks)) (IH : ∀ i ∈ ks, ∀ ri, exs[i]? = some ri → RhsSpec prog w exs i ri) : RhsSpec prog w exs k (.all ks) := by
  intro A env g L m news s R ads G F N hdep hhan hex hlen hret
  obtain ⟨h', gn, dr, tk0, os0⟩ := s
  have hl := hlen k (Nat.le_refl _)
  rw [tr_eq wf hk] at hl hret
  show codeAny _ _ (.call (.ref 391) _) _ _
  refine enterN G F N (by k_is) (by k_is) (by omega) (binds := [("self", .ref (ads.getD k 0))]) (BindsTo.of_eq rfl) (locs rfl) (fun g' L' h' G' keep F N lt => ?_) (by decide) rfl rfl rfl
  have ⟨X, ⟨p, loose, mean, mg, mb, T⟩, _, _, _⟩ := G'
  repeat kp_kind "s"
  first | with_reducible refine KFm.method ?_ | refine KFm.method ?_
  first | with_reducible refine callWith_method1 ?_ | refine callWith_method1 ?_
  repeat kp_kind "s"
  refine GM.join ?_
  first | with_reducible refine callWith_method1 ?_ | refine callWith_method1 ?_
  repeat kp_kind "s"
  refine ex_umem F X N (hex k _ (Nat.le_refl _) hk) rfl ?_
  refine callWith_K0 (X.keeps F.keep) (by k_is) ?_
  refine wpAny_call ?_
  refine umem_spec wf hk (by show (394 : Nat) ≠ 336; decide) IH G' F N (by rw [depth_deeper]; omega) hhan hex (fun j hj => hlen j (by omega)) (by simp only [Row.kids]; omega) (fun l vs h' tkk F N hvl hv => ?_)
  have hS : StrsAre vs (ks.map fun i => S (render (memT (trs exs) i))) := strsAre_of (f := fun i => render (memT (trs exs) i)) hvl hv
  repeat kp_kind "s"
  have key : ∃ z, Txt.join (S [32]) (ks.map fun i => S (render (memT (trs exs) i))) = S z ∧ 40 :: (z ++ [41]) = render (trOf (trs exs) (.all ks)) ∧ ((ks.map fun i => S (render (memT (trs exs) i))).map (·.length)).sum ≤ z.length := by
    match ks, hsh with
    | [a, b], _ => exact ⟨_, join2 _ _ _, by simp [trOf, render], by simp [S_len] <;> omega⟩
    | [a, b, c], _ => exact ⟨_, join3 _ _ _ _, by simp [trOf, render], by simp [S_len] <;> omega⟩
  obtain ⟨z, e1, e2, e3⟩ := key
  rw [← e2] at hl hret
  simp only [List.length_cons, List.length_append, List.length_nil] at hl
  refine join_listW (News.isList N (.head _)) hS (by decide) (by rw [List.length_map]; omega) (fun t1 tkk => ?_)
  rw [show (Str.ofString " ") = S [32] from rfl, e1]
  repeat kp_kind "s"
  refine fmt1 (by rw [S_len]; omega) (fun t2 tkk => ?_)
  kp_kind "k"
  have := hret h' t2 tkk F (fun p hp => N p (.tail _ hp))
  rw [S_append, S_append]
  simpa using this
theorem rhs_any {k : Nat} {ks : List Nat} (wf : WF exs) (hsh : ks.length = 2 ∨ ks.length = 3) (hk : exs[k]? = some (.any ks)) (IH : ∀ i ∈ ks, ∀ ri, exs[i]? = some ri → RhsSpec prog w exs i ri) : RhsSpec prog w exs k (.any ks) := by
  intro A env g L m news s R ads G F N hdep hhan hex hlen hret
  obtain ⟨h', gn, dr, tk0, os0⟩ := s
  have hl := hlen k (Nat.le_refl _)
  rw [tr_eq wf hk] at hl hret
  show codeAny _ _ (.call (.ref 417) _) _ _
  refine enterN G F N (by k_is) (by k_is) (by omega) (binds := [("self", .ref (ads.getD k 0))]) (BindsTo.of_eq rfl) (locs rfl) (fun g' L' h' G' keep F N lt => ?_) (by decide) rfl rfl rfl
  have ⟨X, ⟨p, loose, mean, mg, mb, T⟩, _, _, _⟩ := G'
  repeat kp_kind "s"
  first | with_reducible refine KFm.method ?_ | refine KFm.method ?_
  first | with_reducible refine callWith_method1 ?_ | refine callWith_method1 ?_
  repeat kp_kind "s"
  refine GM.join ?_
  first | with_reducible refine callWith_method1 ?_ | refine callWith_method1 ?_
  repeat kp_kind "s"
  refine ex_umem F X N (hex k _ (Nat.le_refl _) hk) rfl ?_
  refine callWith_K0 (X.keeps F.keep) (by k_is) ?_
  refine wpAny_call ?_
  refine umem_spec wf hk (by show (420 : Nat) ≠ 336; decide) IH G' F N (by rw [depth_deeper]; omega) hhan hex (fun j hj => hlen j (by omega)) (by simp only [Row.kids]; omega) (fun l vs h' tkk F N hvl hv => ?_)
  have hS : StrsAre vs (ks.map fun i => S (render (memT (trs exs) i))) := strsAre_of (f := fun i => render (memT (trs exs) i)) hvl hv
  repeat kp_kind "s"
  have key : ∃ z, Txt.join (S [32, 47, 32]) (ks.map fun i => S (render (memT (trs exs) i))) = S z ∧ 40 :: (z ++ [41]) = render (trOf (trs exs) (.any ks)) ∧ ((ks.map fun i => S (render (memT (trs exs) i))).map (·.length)).sum ≤ z.length := by
    match ks, hsh with
    | [a, b], _ => exact ⟨_, join2 _ _ _, by simp [trOf, render], by simp [S_len] <;> omega⟩
    | [a, b, c], _ => exact ⟨_, join3 _ _ _ _, by simp [trOf, render], by simp [S_len] <;> omega⟩
  obtain ⟨z, e1, e2, e3⟩ := key
  rw [← e2] at hl hret
  simp only [List.length_cons, List.length_append, List.length_nil] at hl
  refine join_listW (News.isList N (.head _)) hS (by decide) (by rw [List.length_map]; omega) (fun t1 tkk => ?_)
  rw [show (Str.ofString " / ") = S [32, 47, 32] from rfl, e1]
  repeat kp_kind "s"
  refine fmt1 (by rw [S_len]; omega) (fun t2 tkk => ?_)
  kp_kind "k"
  have := hret h' t2 tkk F (fun p hp => N p (.tail _ hp))
  rw [S_append, S_append]
  simpa using this
theorem rhs_neg {k i : Nat} (wf : WF exs) (hk : exs[k]? = some (.neg i)) (IH : ∀ j ∈ [i], ∀ ri, exs[j]? = some ri → RhsSpec prog w exs j ri) : RhsSpec prog w exs k (.neg i) := by
  intro A env g L m news s R ads G F N hdep hhan hex hlen hret
  obtain ⟨h', gn, dr, tk0, os0⟩ := s
  have hl := hlen k (Nat.le_refl _)
  rw [tr_eq wf hk] at hl hret
  show codeAny _ _ (.call (.ref 454) _) _ _
  refine enterN G F N (by k_is) (by k_is) (by omega) (binds := [("self", .ref (ads.getD k 0))]) (BindsTo.of_eq rfl) (locs rfl) (fun g' L' h' G' keep F N lt => ?_) (by decide) rfl rfl rfl
  have ⟨X, ⟨p, loose, mean, mg, mb, T⟩, _, _, _⟩ := G'
  have hE := hex k _ (Nat.le_refl _) hk
  obtain ⟨dx, o, m1, m2, t2, it, mt, rfl, hmt⟩ := id hE
  repeat kp_kind "s"
  refine JoinedStr_many ?_
  refine joinParts_cons ?_
  refine wpAny_FormattedValue_s ?_
  repeat kp_kind "s"
  first | with_reducible refine isTrue_plain ?_ | refine isTrue_plain ?_
  repeat kp_kind "s"
  refine get_slot F X (inst_of N m1 m2) (by k_is) (by k_is) (by k_is) (by k_is) (by k_is) (by k_is) rfl rfl ?_
  repeat kp_kind "s"
  first | with_reducible refine itT rfl ?_ | refine itT rfl ?_
  repeat kp_kind "s"
  refine SB.convS_str (fun t4 tkk => ?_) (by decide +kernel)
  refine formatField_str (fun t5 tkk => ?_) (by decide +kernel)
  refine ⟨by decide +kernel, ?_⟩
  refine joinParts_cons ?_
  refine wpAny_FormattedValue_s ?_
  repeat kp_kind "s"
  refine ex_umem F X N hE rfl ?_
  refine callWith_K0 (X.keeps F.keep) (by k_is) ?_
  refine wpAny_call ?_
  refine umem_spec wf hk (by show (458 : Nat) ≠ 336; decide) IH G' F N (by rw [depth_deeper]; omega) hhan hex (fun j hj => hlen j (by omega)) (by simp [Row.kids]) (fun l vs h' tkk F N hvl hv => ?_)
  repeat kp_kind "s"
  obtain ⟨v0, hv0⟩ : ∃ v0, vs = [v0] := List.length_eq_one_iff.mp (by simpa [Row.kids] using hvl)
  subst hv0
  obtain ⟨i', t3, hi', rfl⟩ := hv 0 v0 rfl
  have : i' = i := by simpa [Row.kids] using hi'.symm
  subst this
  have hl2 : (render (memT (trs exs) i')).length ≤ 20000 := by simp only [trOf, render, List.length_cons] at hl; omega
  first | with_reducible refine r_itemD (k := 0) N (.head _) (by decide) rfl ?_ | refine r_itemD (k := 0) N (.head _) (by decide) rfl ?_
  refine SB.convS_str (fun t4 tkk => ?_) (by rw [S_len, sizeLine_eq]; omega)
  refine formatField_str (fun t5 tkk => ?_) (by rw [S_len, sizeLine_eq]; omega)
  have e1 : (Str.empty ++ Str.ofString "!") ++ S (render (memT (trs exs) i')) = S (render (trOf (trs exs) (.neg i'))) := by
    rw [show Str.empty ++ Str.ofString "!" = S [33] from by decide +kernel, S_append]; rfl
  refine ⟨by rw [e1, S_len, sizeLine_eq]; omega, ?_⟩
  refine joinParts_nil ?_ (by rw [e1, S_len, sizeLine_eq]; omega)
  kp_kind "k"
  rw [e1]
  exact hret _ _ _ F (fun p hp => N p (.tail _ hp))
theorem rhs_look {k i : Nat} (wf : WF exs) (hk : exs[k]? = some (.look i)) (IH : ∀ j ∈ [i], ∀ ri, exs[j]? = some ri → RhsSpec prog w exs j ri) : RhsSpec prog w exs k (.look i) := by
  intro A env g L m news s R ads G F N hdep hhan hex hlen hret
  obtain ⟨h', gn, dr, tk0, os0⟩ := s
  have hl := hlen k (Nat.le_refl _)
  rw [tr_eq wf hk] at hl hret
  show codeAny _ _ (.call (.ref 454) _) _ _
  refine enterN G F N (by k_is) (by k_is) (by omega) (binds := [("self", .ref (ads.getD k 0))]) (BindsTo.of_eq rfl) (locs rfl) (fun g' L' h' G' keep F N lt => ?_) (by decide) rfl rfl rfl
  have ⟨X, ⟨p, loose, mean, mg, mb, T⟩, _, _, _⟩ := G'
  have hE := hex k _ (Nat.le_refl _) hk
  obtain ⟨dx, o, m1, m2, t2, it, mt, rfl, hmt⟩ := id hE
  repeat kp_kind "s"
  refine JoinedStr_many ?_
  refine joinParts_cons ?_
  refine wpAny_FormattedValue_s ?_
  repeat kp_kind "s"
  first | with_reducible refine isTrue_plain ?_ | refine isTrue_plain ?_
  repeat kp_kind "s"
  refine get_slot F X (inst_of N m1 m2) (by k_is) (by k_is) (by k_is) (by k_is) (by k_is) (by k_is) rfl rfl ?_
  repeat kp_kind "s"
  refine itF (by decide) ?_
  repeat kp_kind "s"
  refine SB.convS_str (fun t4 tkk => ?_) (by decide +kernel)
  refine formatField_str (fun t5 tkk => ?_) (by decide +kernel)
  refine ⟨by decide +kernel, ?_⟩
  refine joinParts_cons ?_
  refine wpAny_FormattedValue_s ?_
  repeat kp_kind "s"
  refine ex_umem F X N hE rfl ?_
  refine callWith_K0 (X.keeps F.keep) (by k_is) ?_
  refine wpAny_call ?_
  refine umem_spec wf hk (by show (458 : Nat) ≠ 336; decide) IH G' F N (by rw [depth_deeper]; omega) hhan hex (fun j hj => hlen j (by omega)) (by simp [Row.kids]) (fun l vs h' tkk F N hvl hv => ?_)
  repeat kp_kind "s"
  obtain ⟨v0, hv0⟩ : ∃ v0, vs = [v0] := List.length_eq_one_iff.mp (by simpa [Row.kids] using hvl)
  subst hv0
  obtain ⟨i', t3, hi', rfl⟩ := hv 0 v0 rfl
  have : i' = i := by simpa [Row.kids] using hi'.symm
  subst this
  have hl2 : (render (memT (trs exs) i')).length ≤ 20000 := by simp only [trOf, render, List.length_cons] at hl; omega
  first | with_reducible refine r_itemD (k := 0) N (.head _) (by decide) rfl ?_ | refine r_itemD (k := 0) N (.head _) (by decide) rfl ?_
  refine SB.convS_str (fun t4 tkk => ?_) (by rw [S_len, sizeLine_eq]; omega)
  refine formatField_str (fun t5 tkk => ?_) (by rw [S_len, sizeLine_eq]; omega)
  have e1 : (Str.empty ++ Str.ofString "&") ++ S (render (memT (trs exs) i')) = S (render (trOf (trs exs) (.look i'))) := by
    rw [show Str.empty ++ Str.ofString "&" = S [38] from by decide +kernel, S_append]; rfl
  refine ⟨by rw [e1, S_len, sizeLine_eq]; omega, ?_⟩
  refine joinParts_nil ?_ (by rw [e1, S_len, sizeLine_eq]; omega)
  kp_kind "k"
  rw [e1]
  exact hret _ _ _ F (fun p hp => N p (.tail _ hp))
end
end Vy
end
section
open PyProof.V PyProof.Rows.LCg PySem.Builtin PySem.Builtin.Str
namespace Vy
theorem strip_edge {l : List Nat} (h1 : ∀ c r, l = c :: r → Unicode.isSpace c = false) (h2 : ∀ c r, l.reverse = c :: r → Unicode.isSpace c = false) : Txt.strip (S l) = S l := by
  have lo : stripLo Unicode.isSpace true (S l) = 0 := by
    simp only [stripLo, if_true, S_list]
    cases hx : l with
    | nil => rfl
    | cons c r => simp [List.takeWhile_cons, h1 c r hx]
  have hi : stripHi Unicode.isSpace true (S l) 0 = (S l).length := by
    simp only [stripHi, if_true, List.drop_zero, S_list]
    cases hr : l.reverse with
    | nil => rfl
    | cons c r => simp [List.takeWhile_cons, h2 c r hr]
  have hsame : stripSame Unicode.isSpace true true (S l) = true := by
    unfold stripSame
    rw [lo, hi]
    simp
  unfold Txt.strip Txt.stripBy
  rw [if_pos hsame]
theorem starts_one (a c : Nat) (r : List Nat) : Txt.startswith (S (c :: r)) (S [a]) = decide (c = a) := by
  unfold Txt.startswith
  rw [StrLaws.subAt_eq, S_len, S_len, S_list, S_list, Bool.eq_iff_iff]
  simp
theorem ends_one (a c : Nat) (r : List Nat) : Txt.endswith (S (r ++ [c])) (S [a]) = decide (c = a) := by
  unfold Txt.endswith
  rw [StrLaws.subAt_eq, S_len, S_len, S_list, S_list, Bool.eq_iff_iff]
  simp
theorem slice_inner (a b : Nat) (l : List Nat) : Txt.slice (S (a :: (l ++ [b]))) (some 1) (some (-1)) = S l := by
  show StrLaws.sliceText _ _ _ = _
  rw [StrLaws.sliceText_neg_hi _ _ (by decide) (by rw [S_len]; simp; omega), S_len]
  have := StrLaws.sliceText_nat (S (a :: (l ++ [b]))) (a := 1) (b := l.length + 1) (by omega) (by rw [S_len]; simp)
  rw [show (-1 : Int) + ((a :: (l ++ [b])).length : Nat) = ((l.length + 1 : Nat) : Int) from by simp; omega]
  refine this.trans ?_
  simp [S]
theorem render_h2 (t : Tr) : ∃ c q, render t = c :: q ∧ Unicode.isSpace c = false ∧ (c = 40 → t.bare = true) := by
  cases t with
  | word x => exact ⟨qW x, _, reprW_eq x, by rcases qW_or x with h | h <;> rw [h] <;> decide +kernel, fun e => by rcases qW_or x with h | h <;> rw [h] at e <;> cases e⟩
  | name k => exact ⟨_, _, rfl, by decide +kernel, fun e => by cases e⟩
  | neg a => exact ⟨_, _, rfl, by decide +kernel, fun e => by cases e⟩
  | look a => exact ⟨_, _, rfl, by decide +kernel, fun e => by cases e⟩
  | _ => exact ⟨_, _, rfl, by decide +kernel, fun _ => rfl⟩
theorem render_last : ∀ (t : Tr), (∀ k ∈ t.names, k < 10) → ∃ q d, render t = q ++ [d] ∧ Unicode.isSpace d = false
  | .word x, _ => ⟨qW x :: x.flatMap (Builtin.Str.reprChar (qW x)), qW x, by show reprW x = _; rw [reprW_eq]; rfl, by rcases qW_or x with h | h <;> rw [h] <;> decide +kernel⟩
  | .name k, h => by
    have hk := h k (by simp [Tr.names])
    refine ⟨[110], 48 + k, rfl, ?_⟩
    have key : ∀ k, k < 10 → Unicode.isSpace (48 + k) = false := by decide +kernel
    exact key k hk
  | .seq2 a b, _ => ⟨40 :: (render a ++ 32 :: render b), 41, by simp [render], by decide +kernel⟩
  | .seq3 a b c, _ => ⟨40 :: (render a ++ 32 :: (render b ++ 32 :: render c)), 41, by simp [render], by decide +kernel⟩
  | .alt2 a b, _ => ⟨40 :: (render a ++ 32 :: 47 :: 32 :: render b), 41, by simp [render], by decide +kernel⟩
  | .alt3 a b c, _ => ⟨40 :: (render a ++ 32 :: 47 :: 32 :: (render b ++ 32 :: 47 :: 32 :: render c)), 41, by simp [render], by decide +kernel⟩
  | .neg a, h => by
    obtain ⟨q, d, e, hd⟩ := render_last a h
    exact ⟨33 :: q, d, by simp [render, e], hd⟩
  | .look a, h => by
    obtain ⟨q, d, e, hd⟩ := render_last a h
    exact ⟨38 :: q, d, by simp [render, e], hd⟩
/-- the head that a rule's text bears -/
def hdT (k : Nat) : List Nat := if k % 2 = 1 then [110, 48 + k, 32, 61, 32] else []
section
variable {prog : Program} {w : World} {exs : List Row}
theorem rhs_spec (wf : WF exs) (hsh : ∀ r ∈ exs, Shaped r) : ∀ (n k : Nat) (r : Row), k < n → exs[k]? = some r → RhsSpec prog w exs k r
  | 0, k, r, h, _ => by omega
  | n + 1, k, r, h, hk => by
    have ih : ∀ i ∈ r.kids, ∀ ri, exs[i]? = some ri → RhsSpec prog w exs i ri := fun i hi ri e => rhs_spec wf hsh n i ri (by have := wf k r hk i hi; omega) e
    have hs := hsh r (List.mem_of_getElem? hk)
    cases r with
    | word x => exact rhs_word wf hk
    | all ks => exact rhs_all wf hs hk ih
    | any ks => exact rhs_any wf hs hk ih
    | neg i => exact rhs_neg wf hk ih
    | look i => exact rhs_look wf hk ih
theorem ex_rule {A : Around} {E : Value → Shared → Prop} {s : Shared} {g : Heap} {L : Addr} {m : Str → Option Value} {news : List (Addr × Obj)} {ads : List Addr} {es : List DictEntry} {n k : Nat} {r : Row} {pl : Sem Bool} {Q : Value × List Value → Shared → Prop} (F : Fr g L s.heap m) (X : (hd.heap_39 w.params).In g) (N : News g L s.heap news) (h : ExAt news ads es n k r)
    (he : getL "as_rule" es = some none) (q : Q (.ref 280, [.ref (ads.getD k 0)]) s) : wpAny (model prog w) A (getMethod (.ref (ads.getD k 0)) "as_rule" pl) Q E s := by
  obtain ⟨dx, o, m1, m2, h⟩ := h
  cases r with
  | word x =>
    obtain ⟨t1, t2, it, rfl⟩ := h
    exact method_inst F X (inst_of N m1 m2) (by k_is) (by k_is) (by k_is) he q
  | all ks =>
    obtain ⟨t2, it, mt, rfl, _⟩ := h
    exact method_inst F X (inst_of N m1 m2) (by k_is) (by k_is) (by k_is) he q
  | any ks =>
    obtain ⟨t2, it, mt, rfl, _⟩ := h
    exact method_inst F X (inst_of N m1 m2) (by k_is) (by k_is) (by k_is) he q
  | neg i =>
    obtain ⟨t2, it, mt, rfl, _⟩ := h
    exact method_inst F X (inst_of N m1 m2) (by k_is) (by k_is) (by k_is) he q
  | look i =>
    obtain ⟨t2, it, mt, rfl, _⟩ := h
    exact method_inst F X (inst_of N m1 m2) (by k_is) (by k_is) (by k_is) he q
theorem rule_spec (wf : WF exs) (hsh : ∀ r ∈ exs, Shaped r) {k : Nat} {r : Row} (hk : exs[k]? = some r) (hnm : ∀ j ∈ (tr exs k).names, j < 10)
    {A : Around} {env : Env} {g : Heap} {L : Addr} {m : Str → Option Value} {news : List (Addr × Obj)} {s : Shared} {R : Result → Shared → Prop} {ads : List Addr}
    (G : Gd w A env g L) (F : Fr g L s.heap m) (N : News g L s.heap news) (hdep : A.depth + 2 * k + 3 < recursionLimit) (hhan : A.handled = none)
    (hex : ∀ j rj, j ≤ k → exs[j]? = some rj → ExAt news ads [] 0 j rj) (hlen : ∀ j, j ≤ k → (render (tr exs j)).length ≤ 20000)
    (hret : ∀ h' t tk, Fr g L h' m → News g L h' news → R (.ok (.ret (.str (S (hdT k ++ itemsText (tr exs k).inner)) t))) { s with heap := h', toks := tk }) :
    codeAny (model prog w) A (.call (.ref 280) ⟨[.ref (ads.getD k 0)], []⟩) R s := by
  obtain ⟨h', gn, dr, tk0, os0⟩ := s
  refine enterN G F N (by k_is) (by k_is) (by omega) (binds := [("self", .ref (ads.getD k 0))]) (BindsTo.of_eq rfl) (locs rfl) (fun g' L' h' G' keep F N lt => ?_) (by decide) rfl rfl rfl
  have ⟨X, ⟨p, loose, mean, mg, mb, T⟩, _, _, _⟩ := G'
  have hE := hex k _ (Nat.le_refl _) hk
  repeat kp_kind "s"
  refine ex_rhs F X N hE rfl ?_
  refine callWith_K0 (X.keeps F.keep) (keep_rhs _) ?_
  refine wpAny_call ?_
  refine rhs_spec wf hsh (k + 1) k r (by omega) hk G' F N (by rw [depth_deeper]; omega) hhan hex hlen (fun h' t tkk F N => ?_)
  repeat kp_kind "s"
  have hl := hlen k (Nat.le_refl _)
  obtain ⟨c, q, hc, hsp, hbr⟩ := render_h2 (tr exs k)
  obtain ⟨q2, d, hd2, hsp2⟩ := render_last (tr exs k) hnm
  have hst : Txt.strip (S (render (tr exs k))) = S (render (tr exs k)) := strip_edge (fun c' r' e => by rw [hc] at e; cases e; exact hsp) (fun c' r' e => by rw [hd2] at e; simp at e; rw [← e.1]; exact hsp2)
  first | with_reducible refine GM.strip ?_ | refine GM.strip ?_
  refine callWith_method0 ?_
  refine SC.strip (fun t2 tkk => ?_) (by rw [S_len, sizeLine_eq]; omega)
  rw [hst]
  have hin : (tr exs k).bare = false → itemsText (tr exs k).inner = render (tr exs k) := fun e => by rw [inner_not_bare e]; rfl
  repeat kp_kind "s"
  refine wpAny_mono (Q := fun b s₂ => b = (tr exs k).bare ∧ ∃ tk', s₂ = ⟨h', gn, dr, tk', os0⟩) ?_ ?_ (fun _ _ e => e)
  · first | with_reducible refine isTrue_and ?_ | refine isTrue_and ?_
    first | with_reducible refine isTrue_plain ?_ | refine isTrue_plain ?_
    repeat kp_kind "s"
    first | with_reducible refine GM.startswith ?_ | refine GM.startswith ?_
    first | with_reducible refine callWith_method1 ?_ | refine callWith_method1 ?_
    repeat kp_kind "s"
    refine SC.startswith ?_
    repeat kp_kind "s"
    have hcb : Txt.startswith (S (render (tr exs k))) (Str.ofString "(") = (tr exs k).bare := by
      rw [hc]
      refine (starts_one 40 c q).trans ?_
      cases hb : (tr exs k).bare with
      | false => exact decide_eq_false fun e => by rw [hbr e] at hb; cases hb
      | true => rw [render_bare hb] at hc; cases hc; rfl
    cases hb : (tr exs k).bare with
    | false =>
      rw [hb] at hcb
      refine itF (by rw [hcb]; simp) ?_
      exact ⟨rfl, _, rfl⟩
    | true =>
      rw [hb] at hcb
      first | with_reducible refine itT hcb ?_ | refine itT hcb ?_
      first | with_reducible refine isTrue_and ?_ | refine isTrue_and ?_
      first | with_reducible refine isTrue_plain ?_ | refine isTrue_plain ?_
      repeat kp_kind "s"
      first | with_reducible refine GM.endswith ?_ | refine GM.endswith ?_
      first | with_reducible refine callWith_method1 ?_ | refine callWith_method1 ?_
      repeat kp_kind "s"
      refine SC.endswith ?_
      repeat kp_kind "s"
      first | with_reducible refine itT ?_ ?_ | refine itT ?_ ?_
      · rw [render_bare hb, show (40 : Nat) :: (itemsText (tr exs k).inner ++ [41]) = (40 :: itemsText (tr exs k).inner) ++ [41] from rfl]
        exact ends_one 41 41 _
      · refine isTrue_and_nil ?_
        exact ⟨rfl, _, rfl⟩
  · rintro b s₂ ⟨rfl, tk', rfl⟩
    cases hb : (tr exs k).bare with
    | false =>
      refine itF (by simp) ?_
      repeat kp_kind "s"
      have hr0 := (hin hb).symm
      first | with_reducible refine isTrue_plain ?_ | refine isTrue_plain ?_
      repeat kp_kind "s"
      refine ex_name F X N hE (fun t7 tkk => ?_)
      first | with_reducible refine r_truthyS (by unfold nmT; split <;> simp) (fun tkk => ?_) | refine r_truthyS (by unfold nmT; split <;> simp) (fun tkk => ?_)
      by_cases ho : k % 2 = 1
      · first | with_reducible refine itT (by simp [nmT, ho]) ?_ | refine itT (by simp [nmT, ho]) ?_
        refine JoinedStr_many ?_
        refine joinParts_cons ?_
        refine wpAny_FormattedValue_s ?_
        repeat kp_kind "s"
        refine ex_name F X N hE (fun t8 tkk => ?_)
        refine SB.convS_str (fun t9 tkk => ?_) (by rw [S_len, sizeLine_eq]; unfold nmT; split <;> simp)
        refine formatField_str (fun t10 tkk => ?_) (by rw [S_len, sizeLine_eq]; unfold nmT; split <;> simp)
        have e1 : Str.empty ++ S (nmT k) = S [110, 48 + k] := by unfold nmT; rw [if_pos ho]; exact S_append [] _
        refine ⟨by rw [e1]; exact Nat.le_trans (Nat.le_of_eq (S_len _)) (by rw [sizeLine_eq]; simp), ?_⟩
        refine joinParts_cons ?_
        repeat kp_kind "s"
        have e2 : (Str.empty ++ S (nmT k)) ++ Str.ofString " = " = S [110, 48 + k, 32, 61, 32] := by rw [e1]; exact S_append [110, 48 + k] [32, 61, 32]
        refine ⟨by rw [e2]; exact Nat.le_trans (Nat.le_of_eq (S_len _)) (by rw [sizeLine_eq]; simp), ?_⟩
        refine joinParts_cons ?_
        refine wpAny_FormattedValue_s ?_
        repeat kp_kind "s"
        refine SB.convS_str (fun t9 tkk => ?_) (by rw [S_len, sizeLine_eq]; omega)
        refine formatField_str (fun t10 tkk => ?_) (by rw [S_len, sizeLine_eq]; omega)
        have e3 : ((Str.empty ++ S (nmT k)) ++ Str.ofString " = ") ++ S (render (tr exs k)) = S (hdT k ++ itemsText (tr exs k).inner) := by rw [e2, S_append, hr0, hdT, if_pos ho]
        refine ⟨by rw [e3, S_len, sizeLine_eq, ← hr0]; simp only [hdT, if_pos ho, List.length_append, List.length_cons, List.length_nil]; omega, ?_⟩
        refine joinParts_nil ?_ (by rw [e3, S_len, sizeLine_eq, ← hr0]; simp only [hdT, if_pos ho, List.length_append, List.length_cons, List.length_nil]; omega)
        kp_kind "k"
        rw [e3]
        exact hret _ _ _ F N
      · refine itF (by simp [nmT, ho]) ?_
        repeat kp_kind "s"
        kp_kind "k"
        have := hret h'
        rw [hdT, if_neg ho, List.nil_append, ← hr0] at this
        exact this _ _ F N
    | true =>
      first | with_reducible refine itT rfl ?_ | refine itT rfl ?_
      repeat kp_kind "s"
      first | with_reducible refine neg_int ?_ | refine neg_int ?_
      repeat kp_kind "s"
      rw [render_bare hb] at hl
      simp only [List.length_cons, List.length_append, List.length_nil] at hl
      have hsl : Txt.slice (S (render (tr exs k))) (some 1) (some (-1)) = S (itemsText (tr exs k).inner) := by rw [render_bare hb]; exact slice_inner _ _ _
      have hr0 : itemsText (tr exs k).inner = itemsText (tr exs k).inner := rfl
      refine slice_strN_ss (s := ⟨_, _, _, _, _⟩) F N (fun h' t5 tkk F N => ?_) (by with_unfolding_all rfl) (by intro _; with_unfolding_all rfl) (by rw [S_len, render_bare hb, sizeLine_eq]; simp only [List.length_cons, List.length_append, List.length_nil]; omega)
      rw [hsl]
      repeat kp_kind "s"
      first | with_reducible refine isTrue_plain ?_ | refine isTrue_plain ?_
      repeat kp_kind "s"
      refine ex_name F X N hE (fun t7 tkk => ?_)
      first | with_reducible refine r_truthyS (by unfold nmT; split <;> simp) (fun tkk => ?_) | refine r_truthyS (by unfold nmT; split <;> simp) (fun tkk => ?_)
      by_cases ho : k % 2 = 1
      · first | with_reducible refine itT (by simp [nmT, ho]) ?_ | refine itT (by simp [nmT, ho]) ?_
        refine JoinedStr_many ?_
        refine joinParts_cons ?_
        refine wpAny_FormattedValue_s ?_
        repeat kp_kind "s"
        refine ex_name F X N hE (fun t8 tkk => ?_)
        refine SB.convS_str (fun t9 tkk => ?_) (by rw [S_len, sizeLine_eq]; unfold nmT; split <;> simp)
        refine formatField_str (fun t10 tkk => ?_) (by rw [S_len, sizeLine_eq]; unfold nmT; split <;> simp)
        have e1 : Str.empty ++ S (nmT k) = S [110, 48 + k] := by unfold nmT; rw [if_pos ho]; exact S_append [] _
        refine ⟨by rw [e1]; exact Nat.le_trans (Nat.le_of_eq (S_len _)) (by rw [sizeLine_eq]; simp), ?_⟩
        refine joinParts_cons ?_
        repeat kp_kind "s"
        have e2 : (Str.empty ++ S (nmT k)) ++ Str.ofString " = " = S [110, 48 + k, 32, 61, 32] := by rw [e1]; exact S_append [110, 48 + k] [32, 61, 32]
        refine ⟨by rw [e2]; exact Nat.le_trans (Nat.le_of_eq (S_len _)) (by rw [sizeLine_eq]; simp), ?_⟩
        refine joinParts_cons ?_
        refine wpAny_FormattedValue_s ?_
        repeat kp_kind "s"
        refine SB.convS_str (fun t9 tkk => ?_) (by rw [S_len, sizeLine_eq]; omega)
        refine formatField_str (fun t10 tkk => ?_) (by rw [S_len, sizeLine_eq]; omega)
        have e3 : ((Str.empty ++ S (nmT k)) ++ Str.ofString " = ") ++ S (itemsText (tr exs k).inner) = S (hdT k ++ itemsText (tr exs k).inner) := by rw [e2, S_append, hr0, hdT, if_pos ho]
        refine ⟨by rw [e3, S_len, sizeLine_eq, ← hr0]; simp only [hdT, if_pos ho, List.length_append, List.length_cons, List.length_nil]; omega, ?_⟩
        refine joinParts_nil ?_ (by rw [e3, S_len, sizeLine_eq, ← hr0]; simp only [hdT, if_pos ho, List.length_append, List.length_cons, List.length_nil]; omega)
        kp_kind "k"
        rw [e3]
        exact hret _ _ _ F N
      · refine itF (by simp [nmT, ho]) ?_
        repeat kp_kind "s"
        kp_kind "k"
        have := hret h'
        rw [hdT, if_neg ho, List.nil_append, ← hr0] at this
        exact this _ _ F N
end
end Vy
end
section
open PyProof.V PyProof.Rows.LCg
namespace Vy
theorem ints_all2 {vs : List Value} {ns : List Int} (h : IntsAre vs ns) : All2 (fun v z => ∃ t, v = Value.int z t) vs ns := by
  induction h with
  | nil => exact .nil
  | cons n t _ ih => exact .cons ⟨t, rfl⟩ ih
theorem list_up {g h : Heap} {l : Addr} {its : Array Value} (x : g.IsList l its) (k : ∀ b o, g.get? b = some o → h.get? b = some o) : h.IsList l its := lstKept x k
theorem pick_mid {vs : List Value} {a b : Nat} (hab : a ≤ b) : (slicePick vs.toArray (some (a : Int)) (some (b : Int)) none).toList = (vs.drop a).take (b - a) := by
  rw [slicePick_plain]
  simp only [Option.elim, clipAt_nat, List.size_toArray]
  rcases Nat.le_total a vs.length with h | h
  · rw [Nat.min_eq_left h]
    rcases Nat.le_total b vs.length with h2 | h2
    · rw [Nat.min_eq_left h2]
    · rw [Nat.min_eq_right h2, List.take_of_length_le (l := List.drop a vs) (by simp), List.take_of_length_le (l := List.drop a vs) (by simp; omega)]
  · rw [Nat.min_eq_right h, List.drop_of_length_le (l := vs) h]
    simp
theorem pick_upto {vs : List Value} {b : Nat} : (slicePick vs.toArray none (some (b : Int)) none).toList = vs.take b := by
  rw [slicePick_upto']
theorem pick_from {vs : List Value} {a : Nat} : (slicePick vs.toArray (some (a : Int)) none none).toList = vs.drop a := by
  rw [slicePick_from']
section
variable {prog : Program} {w : World} {A : Around} {E : Value → Shared → Prop} {env : Env} {g : Heap} {L : Addr} {m : Str → Option Value} {news : Led} {R : Result → Shared → Prop}
theorem comp_restC {elt : Expr} {x : Str} {scope : Scope} {cl : List (Str × Addr)} {s : Shared} {n : Nat} {S : Led → Prop} {P : Nat → Value → Prop} {Y : Nat → Value → Prop} {Fin : List Value → Led → Prop} (hS : S news)
    (body : ∀ i v C oC m₂ h tk (news2 : Led) E', P i v → (C, oC) ∈ news2 → NsObj oC m₂ → m₂ x = some v → Fr g L h m → News g L h news2 → (∀ p ∈ news, p ∈ news2) →
      wpAny (model prog w) A (eval elt (compEnvC scope cl C env)) (fun y s₂ => ∃ h' tk', s₂ = { s with heap := h', toks := tk' } ∧ Fr g L h' m ∧ News g L h' news2 ∧ Y i y) E' { s with heap := h, toks := tk })
    (fin : ∀ ys, ys.length = n → (∀ i y, ys[i]? = some y → Y i y) → Fin ys news) :
    ∀ (k i : Nat) (ys : List Value), i + k = n → ys.length = i → (∀ j y, ys[j]? = some y → Y j y) → CompRest prog w A g L m env elt x scope cl s S P Fin k i ys news
  | 0, i, ys, h1, h2, hy => CompRest.zero (fin ys (by omega) hy)
  | k + 1, i, ys, h1, h2, hy => by
    refine CompRest.succ fun v I oI C oC D m₂ h tk E' hP hN hx F N off ne => ?_
    refine wpAny_mono (body i v C oC m₂ h tk _ E' hP (List.mem_cons_of_mem _ (List.mem_cons_self)) hN hx F N fun p hp => List.mem_cons_of_mem _ (List.mem_cons_of_mem _ (List.mem_cons_of_mem _ hp))) ?_ fun _ _ e => e
    rintro y s₂ ⟨h', tk', rfl, F', N', hY⟩
    refine ⟨h', tk', news, rfl, F', N', off, hS, comp_restC hS body fin k (i + 1) (ys ++ [y]) (by omega) (by simp [h2]) fun j y' hj => ?_⟩
    rcases Nat.lt_trichotomy j ys.length with l | l | l
    · rw [List.getElem?_append_left l] at hj; exact hy j y' hj
    · subst l; rw [List.getElem?_append_right (Nat.le_refl _), Nat.sub_self] at hj; cases hj; exact h2 ▸ hY
    · rw [List.getElem?_eq_none (by simp; omega)] at hj; cases hj
theorem comp_restJ {elt : Expr} {x : Str} {scope : Scope} {cl : List (Str × Addr)} {s : Shared} {n : Nat} {P : Nat → Value → Prop} {Y : Nat → Value → Prop} {Fin : List Value → Led → Prop} (J : Nat → Led → Prop)
    (body : ∀ i v I oI C oC D ys m₂ h tk (ni : Led) E', i < n → P i v → J i ni → Off3 I C D ni → I ≠ C → I ≠ D → C ≠ D → NsObj oC m₂ → m₂ x = some v → Fr g L h m → News g L h ((I, oI) :: (C, oC) :: (D, lst ys) :: ni) →
      wpAny (model prog w) A (eval elt (compEnvC scope cl C env)) (fun y s₂ => ∃ h' tk' nj, s₂ = { s with heap := h', toks := tk' } ∧ Fr g L h' m ∧ News g L h' ((I, oI) :: (C, oC) :: (D, lst ys) :: nj) ∧ Off3 I C D nj ∧ J (i + 1) nj ∧ Y i y) E' { s with heap := h, toks := tk })
    (fin : ∀ ys ni, ys.length = n → J n ni → (∀ i y, ys[i]? = some y → Y i y) → Fin ys ni) :
    ∀ (k i : Nat) (ys : List Value) (ni : Led), i + k = n → ys.length = i → J i ni → (∀ j y, ys[j]? = some y → Y j y) → CompRest prog w A g L m env elt x scope cl s (fun _ => True) P Fin k i ys ni
  | 0, i, ys, ni, h1, h2, hJ, hy => CompRest.zero (fin ys ni (by omega) ((show i = n by omega) ▸ hJ) hy)
  | k + 1, i, ys, ni, h1, h2, hJ, hy => by
    refine CompRest.succ fun v I oI C oC D m₂ h tk E' hP hN hx F N off ne => ?_
    refine wpAny_mono (body i v I oI C oC D ys m₂ h tk ni E' (by omega) hP hJ off ne.1 ne.2.1 ne.2.2 hN hx F N) ?_ fun _ _ e => e
    rintro y s₂ ⟨h', tk', nj, rfl, F', N', off', hJ', hY⟩
    refine ⟨h', tk', nj, rfl, F', N', off', trivial, comp_restJ J body fin k (i + 1) (ys ++ [y]) nj (by omega) (by simp [h2]) hJ' fun j y' hj => ?_⟩
    rcases Nat.lt_trichotomy j ys.length with l | l | l
    · rw [List.getElem?_append_left l] at hj; exact hy j y' hj
    · subst l; rw [List.getElem?_append_right (Nat.le_refl _), Nat.sub_self] at hj; cases hj; exact h2 ▸ hY
    · rw [List.getElem?_eq_none (by simp; omega)] at hj; cases hj
theorem name_compK {M : Model} {x : Str} {px : Pos} {scope : Scope} {cl : List (Str × Addr)} {C : Addr} {v : Value} {s : Shared} {Q : Value → Shared → Prop} {p : Program} {loose : List Str} {mg mb : Str → Option Value} (F : Fr g L s.heap m) (X : (hd.heap_39 w.params).In g) (T : TopRead p loose mg mb g)
    (e : nsIn (hd.heap_39 w.params) mainGlobals x = some (some v)) (h : Q v s) (hg : (compEnvC scope cl C env).globals = mainGlobals := by rfl)
    (hk : (compEnvC scope cl C env).scope.kind = .function := by rfl) (hl : (compEnvC scope cl C env).kindOf x = some .globalImplicit := by rfl) (hd : (x == ("__debug__" : Str)) = false := by decide) :
    wpAny M A (eval (.Name x px) (compEnvC scope cl C env)) Q E s :=
  Name_function_global hk hl (loadGlobal_global (env := compEnvC scope cl C env) (by rw [hg]; exact T.g.keeps F.keep) (mg_of X T.g e) h) hd
theorem name_compF {M : Model} {x : Str} {px : Pos} {scope : Scope} {cl : List (Str × Addr)} {C c : Addr} {o : Obj} {v : Value} {s : Shared} {Q : Value → Shared → Prop} (N : News g L s.heap news) (hc : cl.lookup x = some c) (hm : (c, o) ∈ news) (hd : o.data = .cell (some v)) (h : Q v s)
    (hk : (compEnvC scope cl C env).scope.kind = .function := by rfl) (hl : (compEnvC scope cl C env).kindOf x = some .cell := by rfl) (hb : (x == ("__debug__" : Str)) = false := by decide) :
    wpAny M A (eval (.Name x px) (compEnvC scope cl C env)) Q E s := wpAny_Name (wpAny_loadName_cell hk hl hc ⟨o, N.get hm, hd⟩ h) hb
end
end Vy
end
section
open PyProof.V PyProof.Rows.LCg PySem.Builtin
namespace Vy
section
variable {prog : Program} {w : World} {A : Around} {E : Value → Shared → Prop} {s : Shared} {g : Heap} {L : Addr} {m : Str → Option Value} {news : Led}
theorem slice_temp {value slice : Expr} {l : Addr} {its : Array Value} {zs : List Value} {vl vu : Value} {lo hi : Option Int} {Q : Value → Shared → Prop} (F : Fr g L s.heap m) (N : News g L s.heap news) (hl : s.heap.IsList l its) (pl : IsPart vl lo) (pu : IsPart vu hi) (e : (slicePick its lo hi none).toList = zs)
    (h : ∀ D h', Fr g L h' m → News g L h' ((D, listOf zs.toArray 0) :: news) → (∀ p ∈ news, p.1 < D) → Q (.ref D) { s with heap := h' })
    (hs : subscripted slice false (.ref l) (.ref s.heap.objs.size) = operate [.ref s.heap.objs.size, .ref l] (getItem (.ref l) (.ref s.heap.objs.size)))  (hz : its.size ≤ sizeLine) :
    wpAny (model prog w) A (subscriptTail value slice (.ref l) (.ref s.heap.objs.size)) Q E { s with heap := s.heap.push { cls := .type "slice", data := .fields #[vl, vu, .none] } } := by
  refine tail_any (Heap.IsList.typeIs (s := { s with heap := s.heap.push { cls := .type "slice", data := .fields #[vl, vu, .none] } }) (hl.push _)) PySem.F.slot_list_getitem.lookup
    (wpAny_getItem_list_slice (hl.push _) (Heap.IsSliceOf.new ..) pl pu .none (by simp) ?_ hz) hs
  have N1 := News.push (F.push { cls := .type "slice", data := .fields #[vl, vu, .none] }) (N.grown fun _ _ e => Heap.get?_push_of_some _ e) { cls := .type "list", data := .seq (slicePick its lo hi none) }
  rw [Heap.size_push] at N1
  show Q (.ref (s.heap.push _).objs.size) _
  rw [Heap.size_push]
  refine h _ _ ((F.push _).push _) ?_ fun p hp => Nat.lt_succ_of_lt (Heap.lt_size (N p hp).1)
  rw [← e, Array.toArray_toList]
  exact N1
theorem storeC {a c : Addr} {cn : Str} {cs : Scope} {ccd v : Value} {cl : List (Str × Addr)} {x : Str} {o : Obj} {v₀ : Option Value} {M : Model} {Q : Unit → Shared → Prop} (F : Fr g L s.heap m) (N : News g L s.heap news) (hc : cl.lookup x = some c) (hm : (c, o) ∈ news) (hd : o.data = .cell v₀)
    (h : ∀ h' o', Fr g L h' m → News g L h' (put c o' news) → o'.data = .cell (some v) → Q () { s with heap := h' })
    (hk : cs.kind = .function := by rfl) (hx : (envX cn cs L a ccd cl).kindOf x = some .cell := by rfl) : wpAny M A (storeName (envX cn cs L a ccd cl) x v) Q E s := by
  refine wpAny_storeName_cell hk hx hc ⟨o, N.get hm, hd⟩ fun h' hv hs => ?_
  obtain ⟨o', ho', hd'⟩ := hv
  have z := upd_put F N hm hs ho'
  exact h h' o' z.1 z.2 hd'
end
theorem ints_at {vs : List Value} {ns : List Int} (h : IntsAre vs ns) : ∀ (i : Nat) (v : Value), vs[i]? = some v → ∃ z t, v = .int z t ∧ ns[i]? = some z := h.at
theorem off1_ne {D : Addr} : ∀ {l : Led}, Off1 D l → ∀ p ∈ l, p.1 ≠ D
  | [], _, _, h => nomatch h
  | _ :: _, h, p, hp => by
    rcases List.mem_cons.mp hp with rfl | hp
    · exact h.1
    · exact off1_ne h.2 p hp
theorem map_getD {α β : Type} {f : α → β} {l : List α} {i : Nat} {a : α} {b : β} (h : i < l.length) : (l.map f).getD i b = f (l.getD i a) := by
  rw [List.getD_eq_getElem?_getD, List.getD_eq_getElem?_getD, List.getElem?_map, List.getElem?_eq_getElem h]; rfl
theorem strs_of : ∀ {ys : List Value} {ns : List (List Nat)}, ys.length = ns.length → (∀ i y, ys[i]? = some y → ∃ t, y = Value.str (S (ns.getD i [])) t) → All2 (fun v x => ∃ t, v = Value.str (S x) t) ys ns
  | [], [], _, _ => .nil
  | y :: ys, n :: ns, hl, h => .cons (h 0 y rfl) (strs_of (by simpa using hl) fun i y' e => by simpa using h (i + 1) y' (by simpa using e))
  | [], _ :: _, hl, _ => by simp at hl
  | _ :: _, [], hl, _ => by simp at hl
theorem strsAre_of2 : ∀ {ys : List Value} {ns : List (List Nat)}, All2 (fun v x => ∃ t, v = Value.str (S x) t) ys ns → StrsAre ys (ns.map S)
  | _, _, .nil => .nil
  | _, _, .cons ⟨t, e⟩ r => e ▸ .cons _ t (strsAre_of2 r)
theorem join_flat : ∀ ns : List (List Nat), Str.join (S []) (ns.map S) = S ns.flatten
  | [] => rfl
  | [a] => by simp [Str.join]
  | a :: b :: r => by
    have ih := join_flat (b :: r)
    show S a ++ S [] ++ Str.join (S []) (S b :: r.map S) = _
    rw [show (S b :: r.map S) = (b :: r).map S from rfl, ih, S_append, S_append]
    simp
theorem lt_get {α : Type} {l : List α} {i : Nat} {a : α} (h : l[i]? = some a) : i < l.length := place_lt h
theorem sum_S : ∀ ns : List (List Nat), ((ns.map S).map (·.length)).sum = ns.flatten.length
  | [] => rfl
  | a :: r => by
    have := sum_S r
    simp only [List.map_cons, List.sum_cons, List.flatten_cons, List.length_append, S_len] at this ⊢
    omega
theorem gd_law {w : World} {e : Env} {g : Heap} {L : Addr} {p : Program} {loose : List Str} {mean : ExcName → Option Value} {mg mb : Str → Option Value} (X : (hd.heap_39 w.params).In g) (T : Top p loose mean mg mb g) (K0 : Below callerA g [] g) (hf : e.frame = some L) (hk : e.scope.kind = .function) : Gd w (callerA.deeper e) e g L :=
  ⟨X, ⟨_, _, _, _, _, T⟩, ⟨callerA, _, [], K0, rfl⟩, hf, hk⟩
def nonCell (o : Obj) : Prop := ∀ v, o.data ≠ .cell v
theorem put_nc {h : Heap} {n : Led} {c : Addr} {q q' : Obj} {v : Option Value} (N : News g L h n) (hm : (c, q) ∈ n) (hq : q.data = .cell v) : ∀ p ∈ n, nonCell p.2 → p ∈ put c q' n := fun p hp hc => by
  refine put_ne hp fun e => ?_
  have : p.2 = q := News.uniq N (a := c) (by rw [← e]; exact hp) hm
  exact hc v (this ▸ hq)
theorem EAt.offD {x : Mx} {n n' : Led} {k : Nat} {r : Row} (h : EAt n x k r) (kp : ∀ p ∈ n, nonCell p.2 → p ∈ n') : EAt n' x k r := by
  obtain ⟨o, m1, h⟩ := h
  have kt : ∀ a vs, (a, tupO vs) ∈ n → (a, tupO vs) ∈ n' := fun a vs h => kp _ h fun v q => (nomatch q)
  cases r with
  | word y => obtain ⟨t1, t2, it, rfl⟩ := h; exact ⟨_, kp _ m1 (fun v q => (nomatch q)), t1, t2, it, rfl⟩
  | all ks => obtain ⟨t2, it, mt, rfl, hm⟩ := h; exact ⟨_, kp _ m1 (fun v q => (nomatch q)), t2, it, mt, rfl, kt _ _ hm⟩
  | any ks => obtain ⟨t2, it, mt, rfl, hm⟩ := h; exact ⟨_, kp _ m1 (fun v q => (nomatch q)), t2, it, mt, rfl, kt _ _ hm⟩
  | neg i => obtain ⟨t2, it, mt, rfl, hm⟩ := h; exact ⟨_, kp _ m1 (fun v q => (nomatch q)), t2, it, mt, rfl, kt _ _ hm⟩
  | look i => obtain ⟨t2, it, mt, rfl, hm⟩ := h; exact ⟨_, kp _ m1 (fun v q => (nomatch q)), t2, it, mt, rfl, kt _ _ hm⟩
theorem MAt.offD {y : Mx} {n n' : Led} (h : MAt y n) (kp : ∀ p ∈ n, nonCell p.2 → p ∈ n') : MAt y n' :=
  ⟨h.la, h.ld, fun j r e => ⟨(h.ex j r e).1.offD kp, kp _ (h.ex j r e).2 fun v q => (nomatch q)⟩, h.nd⟩
/-! the three words and the text -/
def WORDS : List (List Nat) := [[97], [98], [39], [92], [40], [47], [41], [34], [33], [110, 49], [10], [34, 39]]
def wordI (z : Int) : List Nat := WORDS.getD (z.fmod 12).toNat []
def lawW (sc : List Int) : List (List Nat) := (sc.take 3 ++ [(0 : Int), 1, 2].drop (min 3 sc.length)).map wordI
theorem lawW_len (sc : List Int) : (lawW sc).length = 3 := by
  unfold lawW
  simp only [List.length_map, List.length_append, List.length_take, List.length_drop, List.length_cons, List.length_nil]
  omega
theorem wordI_mem (z : Int) : wordI z ∈ WORDS := by
  unfold wordI
  have h0 : 0 ≤ z.fmod 12 := Int.fmod_nonneg_of_pos z (by decide)
  have h1 : z.fmod 12 < 12 := Int.fmod_lt_of_pos z (by decide)
  have h2 : (z.fmod 12).toNat < WORDS.length := by show _ < 12; omega
  rw [List.getD_eq_getElem?_getD, List.getElem?_eq_getElem h2]
  exact List.getElem_mem h2
theorem WORDS_ok : ∀ x ∈ WORDS, x.length ≤ 2 ∧ ∀ c ∈ x, c ∈ AC := by decide +kernel
theorem lawW_ok {sc : List Int} : ∀ x ∈ lawW sc, x.length ≤ 2 ∧ ∀ c ∈ x, c ∈ AC := by
  intro x hx
  obtain ⟨z, _, rfl⟩ := List.mem_map.mp hx
  exact WORDS_ok _ (wordI_mem z)
def lawT (sc : List Int) : List Nat := (((sc.drop 3).take 4).map fun z => (lawW sc).getD (z.fmod 3).toNat []).flatten
theorem lawT_len (sc : List Int) : (lawT sc).length ≤ 8 := by
  unfold lawT
  have key : ∀ l : List (List Nat), (∀ x ∈ l, x.length ≤ 2) → l.flatten.length ≤ 2 * l.length := by
    intro l
    induction l with
    | nil => intro _; exact Nat.zero_le _
    | cons a l ih =>
      intro h
      have h1 := h a (.head _)
      have h2 := ih fun x hx => h x (.tail _ hx)
      simp only [List.flatten_cons, List.length_append, List.length_cons]
      omega
  refine Nat.le_trans (key _ fun x hx => ?_) ?_
  · obtain ⟨z, _, rfl⟩ := List.mem_map.mp hx
    have h0 : 0 ≤ z.fmod 3 := Int.fmod_nonneg_of_pos z (by decide)
    have h1 : z.fmod 3 < 3 := Int.fmod_lt_of_pos z (by decide)
    have h2 : (z.fmod 3).toNat < (lawW sc).length := by rw [lawW_len]; omega
    rw [List.getD_eq_getElem?_getD, List.getElem?_eq_getElem h2]
    exact (lawW_ok _ (List.getElem_mem h2)).1
  · simp only [List.length_map, List.length_take, List.length_drop]
    omega
theorem words_tup {w : World} {h : Heap} (X : (hd.heap_39 w.params).In h) : ∃ l, l.length = 12 ∧ h.get? 462 = some (tupO l) ∧ ∀ r, r < 12 → ∃ t, l[r]? = some (.str (S (WORDS.getD r [])) t) := by
  refine ⟨_, ?_, X 462 _ (by k_is), ?_⟩
  rotate_left
  · intro r hr
    rcases r with _ | _ | _ | _ | _ | _ | _ | _ | _ | _ | _ | _ | r
    iterate 12
      · exact ⟨_, rfl⟩
    omega
  · rfl
end Vy
end
section
open PyProof.V
namespace Vy
/-! what the told trees mean -/
theorem tr_cases {exs : List Row} (wf : WF exs) (sh : ∀ r ∈ exs, Shaped r) {k : Nat} {r : Row} (h : exs[k]? = some r) :
    (∃ x, r = .word x ∧ tr exs k = .word x) ∨
    (∃ a b, r = .all [a, b] ∧ tr exs k = .seq2 (memT (trs exs) a) (memT (trs exs) b)) ∨
    (∃ a b c, r = .all [a, b, c] ∧ tr exs k = .seq3 (memT (trs exs) a) (memT (trs exs) b) (memT (trs exs) c)) ∨
    (∃ a b, r = .any [a, b] ∧ tr exs k = .alt2 (memT (trs exs) a) (memT (trs exs) b)) ∨
    (∃ a b c, r = .any [a, b, c] ∧ tr exs k = .alt3 (memT (trs exs) a) (memT (trs exs) b) (memT (trs exs) c)) ∨
    (∃ a, r = .neg a ∧ tr exs k = .neg (memT (trs exs) a)) ∨
    (∃ a, r = .look a ∧ tr exs k = .look (memT (trs exs) a)) := by
  have e := tr_eq wf h
  have s := sh r (List.mem_of_getElem? h)
  match r, s, e with
  | .word x, _, e => exact .inl ⟨x, rfl, e⟩
  | .all [a, b], _, e => exact .inr (.inl ⟨a, b, rfl, e⟩)
  | .all [a, b, c], _, e => exact .inr (.inr (.inl ⟨a, b, c, rfl, e⟩))
  | .any [a, b], _, e => exact .inr (.inr (.inr (.inl ⟨a, b, rfl, e⟩)))
  | .any [a, b, c], _, e => exact .inr (.inr (.inr (.inr (.inl ⟨a, b, c, rfl, e⟩))))
  | .neg a, _, e => exact .inr (.inr (.inr (.inr (.inr (.inl ⟨a, rfl, e⟩)))))
  | .look a, _, e => exact .inr (.inr (.inr (.inr (.inr (.inr ⟨a, rfl, e⟩)))))
  | .all [], s, _ => simp [Shaped] at s
  | .all [_], s, _ => simp [Shaped] at s
  | .all (_ :: _ :: _ :: _ :: _), s, _ => simp [Shaped] at s
  | .any [], s, _ => simp [Shaped] at s
  | .any [_], s, _ => simp [Shaped] at s
  | .any (_ :: _ :: _ :: _ :: _), s, _ => simp [Shaped] at s
/-- induction over the members of an expression -/
theorem tr_ind {exs : List Row} (wf : WF exs) (sh : ∀ r ∈ exs, Shaped r) {P : Nat → Tr → Prop}
    (hw : ∀ k x, exs[k]? = some (.word x) → P k (.word x))
    (hall2 : ∀ k a b ta tb, exs[k]? = some (.all [a, b]) → (ta = memT (trs exs) a ∧ (a % 2 ≠ 1 → P a ta)) → (tb = memT (trs exs) b ∧ (b % 2 ≠ 1 → P b tb)) → P k (.seq2 ta tb))
    (hall3 : ∀ k a b c ta tb tc, exs[k]? = some (.all [a, b, c]) → (ta = memT (trs exs) a ∧ (a % 2 ≠ 1 → P a ta)) → (tb = memT (trs exs) b ∧ (b % 2 ≠ 1 → P b tb)) → (tc = memT (trs exs) c ∧ (c % 2 ≠ 1 → P c tc)) → P k (.seq3 ta tb tc))
    (hany2 : ∀ k a b ta tb, exs[k]? = some (.any [a, b]) → (ta = memT (trs exs) a ∧ (a % 2 ≠ 1 → P a ta)) → (tb = memT (trs exs) b ∧ (b % 2 ≠ 1 → P b tb)) → P k (.alt2 ta tb))
    (hany3 : ∀ k a b c ta tb tc, exs[k]? = some (.any [a, b, c]) → (ta = memT (trs exs) a ∧ (a % 2 ≠ 1 → P a ta)) → (tb = memT (trs exs) b ∧ (b % 2 ≠ 1 → P b tb)) → (tc = memT (trs exs) c ∧ (c % 2 ≠ 1 → P c tc)) → P k (.alt3 ta tb tc))
    (hneg : ∀ k a ta, exs[k]? = some (.neg a) → (ta = memT (trs exs) a ∧ (a % 2 ≠ 1 → P a ta)) → P k (.neg ta))
    (hlook : ∀ k a ta, exs[k]? = some (.look a) → (ta = memT (trs exs) a ∧ (a % 2 ≠ 1 → P a ta)) → P k (.look ta)) :
    ∀ (n k : Nat), k < n → k < exs.length → P k (tr exs k)
  | 0, k, h, _ => by omega
  | n + 1, k, h, hl => by
    have ih := tr_ind wf sh hw hall2 hall3 hany2 hany3 hneg hlook n
    obtain ⟨r, hr⟩ : ∃ r, exs[k]? = some r := ⟨_, List.getElem?_eq_getElem hl⟩
    have mem : ∀ a ∈ r.kids, memT (trs exs) a = memT (trs exs) a ∧ (a % 2 ≠ 1 → P a (memT (trs exs) a)) := fun a ha => ⟨rfl, fun q => by
      have hak := wf k r hr a ha
      rw [memT_eq, if_neg q]
      exact ih a (by omega) (by omega)⟩
    rcases tr_cases wf sh hr with ⟨x, rfl, e⟩ | ⟨a, b, rfl, e⟩ | ⟨a, b, c, rfl, e⟩ | ⟨a, b, rfl, e⟩ | ⟨a, b, c, rfl, e⟩ | ⟨a, rfl, e⟩ | ⟨a, rfl, e⟩
    · rw [e]; exact hw k x hr
    · rw [e]; exact hall2 k a b _ _ hr (mem a (by simp [Row.kids])) (mem b (by simp [Row.kids]))
    · rw [e]; exact hall3 k a b c _ _ _ hr (mem a (by simp [Row.kids])) (mem b (by simp [Row.kids])) (mem c (by simp [Row.kids]))
    · rw [e]; exact hany2 k a b _ _ hr (mem a (by simp [Row.kids])) (mem b (by simp [Row.kids]))
    · rw [e]; exact hany3 k a b c _ _ _ hr (mem a (by simp [Row.kids])) (mem b (by simp [Row.kids])) (mem c (by simp [Row.kids]))
    · rw [e]; exact hneg k a _ hr (mem a (by simp [Row.kids]))
    · rw [e]; exact hlook k a _ hr (mem a (by simp [Row.kids]))
def nmE (txt : List Nat) (exs : List Row) : Nat → Nat → Option Nat := fun k p => rs txt exs k p
theorem sem_mem {txt : List Nat} {exs : List Row} {a : Nat} {t : Tr} (h : t = memT (trs exs) a ∧ (a % 2 ≠ 1 → ∀ p, semT txt (nmE txt exs) t p = rs txt exs a p)) (p : Nat) : semT txt (nmE txt exs) t p = rs txt exs a p := by
  by_cases q : a % 2 = 1
  · rw [h.1, memT_eq, if_pos q]; rfl
  · exact h.2 q p
theorem bind_some (x : Option Nat) : x.bind some = x := by cases x <;> rfl
theorem sem_tr {txt : List Nat} {exs : List Row} (wf : WF exs) (sh : ∀ r ∈ exs, Shaped r) {k : Nat} (hk : k < exs.length) : ∀ p, semT txt (nmE txt exs) (tr exs k) p = rs txt exs k p := by
  refine tr_ind wf sh (P := fun k t => ∀ p, semT txt (nmE txt exs) t p = rs txt exs k p) ?_ ?_ ?_ ?_ ?_ ?_ ?_ (k + 1) k (Nat.lt_succ_self _) hk
  · intro k x h p; rw [rs_row wf h]; rfl
  · intro k a b ta tb h ha hb p
    rw [rs_row wf h]
    show (semT txt _ ta p).bind (semT txt _ tb) = (rs txt exs a p).bind fun q => (rs txt exs b q).bind some
    rw [sem_mem ha]
    congr 1; funext q; rw [sem_mem hb, bind_some]
  · intro k a b c ta tb tc h ha hb hc p
    rw [rs_row wf h]
    show ((semT txt _ ta p).bind (semT txt _ tb)).bind (semT txt _ tc) = (rs txt exs a p).bind fun q => (rs txt exs b q).bind fun q2 => (rs txt exs c q2).bind some
    rw [sem_mem ha, Option.bind_assoc]
    congr 1; funext q; rw [sem_mem hb]
    congr 1; funext q; rw [sem_mem hc, bind_some]
  · intro k a b ta tb h ha hb p
    rw [rs_row wf h]
    show (semT txt _ ta p).or (semT txt _ tb p) = (rs txt exs a p).or ((rs txt exs b p).or none)
    rw [sem_mem ha, sem_mem hb, Option.or_none]
  · intro k a b c ta tb tc h ha hb hc p
    rw [rs_row wf h]
    show ((semT txt _ ta p).or (semT txt _ tb p)).or (semT txt _ tc p) = (rs txt exs a p).or ((rs txt exs b p).or ((rs txt exs c p).or none))
    rw [sem_mem ha, sem_mem hb, sem_mem hc, Option.or_none, Option.or_assoc]
  · intro k a ta h ha p
    rw [rs_row wf h]
    show (if (semT txt _ ta p).isSome then none else some p) = if (rs txt exs a p).isSome then none else some p
    rw [sem_mem ha]
  · intro k a ta h ha p
    rw [rs_row wf h]
    show (if (semT txt _ ta p).isSome then some p else none) = if (rs txt exs a p).isSome then some p else none
    rw [sem_mem ha]
theorem names_mem {exs : List Row} {a k : Nat} {t : Tr} (hak : a < k) (h : t = memT (trs exs) a ∧ (a % 2 ≠ 1 → ∀ j ∈ t.names, j % 2 = 1 ∧ j < a)) : ∀ j ∈ t.names, j % 2 = 1 ∧ j < k := by
  by_cases q : a % 2 = 1
  · rw [h.1, memT_eq, if_pos q]
    intro j hj
    simp [Tr.names] at hj
    subst hj; exact ⟨q, hak⟩
  · exact fun j hj => ⟨(h.2 q j hj).1, Nat.lt_trans (h.2 q j hj).2 hak⟩
theorem names_tr {exs : List Row} (wf : WF exs) (sh : ∀ r ∈ exs, Shaped r) {k : Nat} (hk : k < exs.length) : ∀ j ∈ (tr exs k).names, j % 2 = 1 ∧ j < k := by
  have two : ∀ {k : Nat} {P : Nat → Prop} {a b : List Nat}, (∀ j ∈ a, P j) → (∀ j ∈ b, P j) → ∀ j ∈ a ++ b, P j := fun h1 h2 j hj => (List.mem_append.mp hj).elim (h1 j) (h2 j)
  refine tr_ind wf sh (P := fun k t => ∀ j ∈ t.names, j % 2 = 1 ∧ j < k) ?_ ?_ ?_ ?_ ?_ ?_ ?_ (k + 1) k (Nat.lt_succ_self _) hk
  · intro k x h j hj; cases hj
  · intro k a b ta tb h ha hb
    have w := wf k _ h
    exact two (k := k) (names_mem (w a (by simp [Row.kids])) ha) (names_mem (w b (by simp [Row.kids])) hb)
  · intro k a b c ta tb tc h ha hb hc
    have w := wf k _ h
    exact two (k := k) (two (k := k) (names_mem (w a (by simp [Row.kids])) ha) (names_mem (w b (by simp [Row.kids])) hb)) (names_mem (w c (by simp [Row.kids])) hc)
  · intro k a b ta tb h ha hb
    have w := wf k _ h
    exact two (k := k) (names_mem (w a (by simp [Row.kids])) ha) (names_mem (w b (by simp [Row.kids])) hb)
  · intro k a b c ta tb tc h ha hb hc
    have w := wf k _ h
    exact two (k := k) (two (k := k) (names_mem (w a (by simp [Row.kids])) ha) (names_mem (w b (by simp [Row.kids])) hb)) (names_mem (w c (by simp [Row.kids])) hc)
  · intro k a ta h ha
    exact names_mem (t := ta) (wf k _ h a (by simp [Row.kids])) ha
  · intro k a ta h ha
    exact names_mem (t := ta) (wf k _ h a (by simp [Row.kids])) ha
/-! words, sizes -/
theorem words_mem {exs : List Row} {a : Nat} {t : Tr} {W : List Nat → Prop} (h : t = memT (trs exs) a ∧ (a % 2 ≠ 1 → ∀ x ∈ t.words, W x)) : ∀ x ∈ t.words, W x := by
  by_cases q : a % 2 = 1
  · rw [h.1, memT_eq, if_pos q]
    intro j hj; cases hj
  · exact h.2 q
theorem words_tr {exs : List Row} (wf : WF exs) (sh : ∀ r ∈ exs, Shaped r) {W : List Nat → Prop} (hW : ∀ x, Row.word x ∈ exs → W x) {k : Nat} (hk : k < exs.length) : ∀ x ∈ (tr exs k).words, W x := by
  have two : ∀ {P : List Nat → Prop} {a b : List (List Nat)}, (∀ j ∈ a, P j) → (∀ j ∈ b, P j) → ∀ j ∈ a ++ b, P j := fun h1 h2 j hj => (List.mem_append.mp hj).elim (h1 j) (h2 j)
  refine tr_ind wf sh (P := fun k t => ∀ x ∈ t.words, W x) ?_ ?_ ?_ ?_ ?_ ?_ ?_ (k + 1) k (Nat.lt_succ_self _) hk
  · intro k x h j hj
    simp [Tr.words] at hj
    subst hj; exact hW _ (List.mem_of_getElem? h)
  · intro k a b ta tb h ha hb
    exact two (words_mem ha) (words_mem hb)
  · intro k a b c ta tb tc h ha hb hc
    exact two (two (words_mem ha) (words_mem hb)) (words_mem hc)
  · intro k a b ta tb h ha hb
    exact two (words_mem ha) (words_mem hb)
  · intro k a b c ta tb tc h ha hb hc
    exact two (two (words_mem ha) (words_mem hb)) (words_mem hc)
  · intro k a ta h ha
    exact words_mem (t := ta) ha
  · intro k a ta h ha
    exact words_mem (t := ta) ha
def bnd : Nat → Nat
  | 0 => 1 | 1 => 4 | 2 => 4 | 3 => 13 | 4 => 13 | 5 => 40 | 6 => 40 | _ => 121
theorem bnd_le : ∀ k < 8, ∀ a < k, a % 2 ≠ 1 → bnd a * 3 + 1 ≤ bnd k := by decide
theorem bnd_pos : ∀ k, 1 ≤ bnd k := by
  intro k
  rcases k with _ | _ | _ | _ | _ | _ | _ | k <;> simp [bnd]
theorem bnd4 : ∀ k < 8, ∀ a < k, 4 ≤ bnd k := by decide
theorem size_mem {exs : List Row} {a k : Nat} {t : Tr} (hk : k < 8) (hak : a < k) (h : t = memT (trs exs) a ∧ (a % 2 ≠ 1 → a < 8 → t.size ≤ bnd a)) : 3 * t.size + 1 ≤ bnd k := by
  by_cases q : a % 2 = 1
  · have e : t.size = 1 := by rw [h.1, memT_eq, if_pos q]; rfl
    have := bnd4 k hk a hak
    omega
  · have h1 := h.2 q (by omega)
    have h2 := bnd_le k hk a hak q
    omega
theorem size_tr {exs : List Row} (wf : WF exs) (sh : ∀ r ∈ exs, Shaped r) (h8 : exs.length ≤ 8) {k : Nat} (hk : k < exs.length) : (tr exs k).size ≤ bnd k := by
  refine tr_ind wf sh (P := fun k t => k < 8 → t.size ≤ bnd k) ?_ ?_ ?_ ?_ ?_ ?_ ?_ (k + 1) k (Nat.lt_succ_self _) hk (by omega)
  · intro k x h _; exact bnd_pos k
  · intro k a b ta tb h ha hb hk
    have w := wf k _ h
    have h1 := size_mem hk (w a (by simp [Row.kids])) ha
    have h2 := size_mem hk (w b (by simp [Row.kids])) hb
    simp only [Tr.size]; omega
  · intro k a b c ta tb tc h ha hb hc hk
    have w := wf k _ h
    have h1 := size_mem hk (w a (by simp [Row.kids])) ha
    have h2 := size_mem hk (w b (by simp [Row.kids])) hb
    have h3 := size_mem hk (w c (by simp [Row.kids])) hc
    simp only [Tr.size]; omega
  · intro k a b ta tb h ha hb hk
    have w := wf k _ h
    have h1 := size_mem hk (w a (by simp [Row.kids])) ha
    have h2 := size_mem hk (w b (by simp [Row.kids])) hb
    simp only [Tr.size]; omega
  · intro k a b c ta tb tc h ha hb hc hk
    have w := wf k _ h
    have h1 := size_mem hk (w a (by simp [Row.kids])) ha
    have h2 := size_mem hk (w b (by simp [Row.kids])) hb
    have h3 := size_mem hk (w c (by simp [Row.kids])) hc
    simp only [Tr.size]; omega
  · intro k a ta h ha hk
    have h1 := size_mem hk (wf k _ h a (by simp [Row.kids])) ha
    simp only [Tr.size]; omega
  · intro k a ta h ha hk
    have h1 := size_mem hk (wf k _ h a (by simp [Row.kids])) ha
    simp only [Tr.size]; omega
theorem rc_len : ∀ q ∈ [34, 39], ∀ c ∈ AC, (Builtin.Str.reprChar q c).length ≤ 2 := by decide +kernel
theorem flat_len {q : Nat} (hq : q ∈ [34, 39]) : ∀ x : List Nat, (∀ c ∈ x, c ∈ AC) → (x.flatMap (Builtin.Str.reprChar q)).length ≤ 2 * x.length
  | [], _ => Nat.le_refl _
  | c :: x, h => by
    have h1 := rc_len q hq c (h c (.head _))
    have h2 := flat_len hq x fun d hd => h d (.tail _ hd)
    simp only [List.flatMap_cons, List.length_append, List.length_cons]
    omega
theorem reprW_len {x : List Nat} (hx : x.length ≤ 4) (hc : ∀ c ∈ x, c ∈ AC) : (reprW x).length ≤ 10 := by
  rw [reprW_eq]
  have := flat_len (q := qW x) (by rcases qW_or x with h | h <;> rw [h] <;> simp) x hc
  simp only [List.length_cons, List.length_append, List.length_nil]
  omega
theorem render_len : ∀ t : Tr, (∀ x ∈ t.words, x.length ≤ 4 ∧ ∀ c ∈ x, c ∈ AC) → (render t).length ≤ 12 * t.size
  | .word x, h => by
    have := reprW_len (h x (by simp [Tr.words])).1 (h x (by simp [Tr.words])).2
    simp only [render, Tr.size]; omega
  | .name k, _ => by simp only [render, Tr.size, List.length_cons, List.length_nil]; omega
  | .seq2 a b, h => by
    have h1 := render_len a fun x hx => h x (by simp [Tr.words, hx])
    have h2 := render_len b fun x hx => h x (by simp [Tr.words, hx])
    simp only [render, Tr.size, List.length_cons, List.length_append, List.length_nil]; omega
  | .seq3 a b c, h => by
    have h1 := render_len a fun x hx => h x (by simp [Tr.words, hx])
    have h2 := render_len b fun x hx => h x (by simp [Tr.words, hx])
    have h3 := render_len c fun x hx => h x (by simp [Tr.words, hx])
    simp only [render, Tr.size, List.length_cons, List.length_append, List.length_nil]; omega
  | .alt2 a b, h => by
    have h1 := render_len a fun x hx => h x (by simp [Tr.words, hx])
    have h2 := render_len b fun x hx => h x (by simp [Tr.words, hx])
    simp only [render, Tr.size, List.length_cons, List.length_append, List.length_nil]; omega
  | .alt3 a b c, h => by
    have h1 := render_len a fun x hx => h x (by simp [Tr.words, hx])
    have h2 := render_len b fun x hx => h x (by simp [Tr.words, hx])
    have h3 := render_len c fun x hx => h x (by simp [Tr.words, hx])
    simp only [render, Tr.size, List.length_cons, List.length_append, List.length_nil]; omega
  | .neg a, h => by
    have h1 := render_len a fun x hx => h x (by simp [Tr.words, hx])
    simp only [render, Tr.size, List.length_cons]; omega
  | .look a, h => by
    have h1 := render_len a fun x hx => h x (by simp [Tr.words, hx])
    simp only [render, Tr.size, List.length_cons]; omega
theorem items_len (t : Tr) : (itemsText t.inner).length ≤ (render t).length := by
  cases hb : t.bare with
  | false => rw [inner_not_bare hb]; exact Nat.le_refl _
  | true => rw [render_bare hb]; simp only [List.length_cons, List.length_append, List.length_nil]; omega
end Vy
end
section
open PyProof.V PyProof.Rows.LCg PySem.Builtin
namespace Vy
theorem wd_ok {ws : List (List Nat)} (hw : ∀ x ∈ ws, x.length ≤ 2 ∧ ∀ c ∈ x, c ∈ AC) (z : Int) : (wd ws z).length ≤ 2 ∧ ∀ c ∈ wd ws z, c ∈ AC := by
  unfold wd
  rw [List.getD_eq_getElem?_getD]
  cases h : ws[(z.fmod 4).toNat]? with
  | none => exact ⟨Nat.zero_le _, fun c hc => (nomatch hc)⟩
  | some x => exact hw x (List.mem_of_getElem? h)
theorem getD_ok {ws : List (List Nat)} (hw : ∀ x ∈ ws, x.length ≤ 2 ∧ ∀ c ∈ x, c ∈ AC) (i : Nat) : (ws.getD i []).length ≤ 2 ∧ ∀ c ∈ ws.getD i [], c ∈ AC := by
  rw [List.getD_eq_getElem?_getD]
  cases h : ws[i]? with
  | none => exact ⟨Nat.zero_le _, fun c hc => (nomatch hc)⟩
  | some x => exact hw x (List.mem_of_getElem? h)
theorem madeR_words {ws : List (List Nat)} {sc : List Int} (hw : ∀ x ∈ ws, x.length ≤ 2 ∧ ∀ c ∈ x, c ∈ AC) : ∀ i x, Row.word x ∈ madeR ws sc i → x.length ≤ 4 ∧ ∀ c ∈ x, c ∈ AC
  | 0, x, h => by
    simp [madeR] at h
    rcases h with rfl | rfl
    · have := getD_ok hw 0
      simp only [List.getD_eq_getElem?_getD] at this
      exact ⟨by have := this.1; omega, this.2⟩
    · have := getD_ok hw 1
      simp only [List.getD_eq_getElem?_getD] at this
      exact ⟨by have := this.1; omega, this.2⟩
  | i + 1, x, h => by
    rcases List.mem_append.mp h with h | h
    · exact madeR_words hw i x h
    · rw [List.mem_singleton] at h
      unfold newRow rowK at h
      split at h <;> first | (injection h with h; subst h; have h1 := wd_ok hw (sc.getD (3 * i + 1) 0); have h2 := wd_ok hw (sc.getD (3 * i + 2) 0); exact ⟨by rw [List.length_append]; have := h1.1; have := h2.1; omega, fun c hc => (List.mem_append.mp hc).elim (h1.2 c) (h2.2 c)⟩) | cases h
section
variable {prog : Program} {w : World} {A : Around} {E : Value → Shared → Prop} {s : Shared} {g : Heap} {L : Addr} {m : Str → Option Value} {news : Led}
theorem homes_set {k : Str} {z : Int} {t u : Tok} {d : Addr} {D : List (PyData × PyData)} {Q : Unit → Shared → Prop} (F : Fr g L s.heap m) (N : News g L s.heap news) (H : HomesAt prog w news d D) (hsz : D.length ≤ 1000)
    (h : ∀ h' o' tk, Fr g L h' m → News g L h' (put d o' news) → HomesAt prog w (put d o' news) d (putD (.str k) (.int z) D) → Q () { s with heap := h', toks := tk }) :
    wpAny (model prog w) A (setItem (.ref d) (.str k t) (.int z u)) Q E s := by
  obtain ⟨o, kvs, hm, hd, hf, lo⟩ := H
  refine wpAny_setItem_pairs (hsz := by rw [← hf.length, sizeLine_eq]; omega) (strKind_is prog w k t) (Heap.dictOf_iff.mpr ⟨o, (N _ hm).1, hd⟩) fun h' hmm hs => ?_
  obtain ⟨o', ho', hd'⟩ := Heap.dictOf_iff.mp hmm
  have U := upd_put F N hm hs ho'
  exact h h' o' _ U.1 U.2 ⟨o', _, put_self hm, hd', hf.stored same_str k (.int z u), lo⟩
end
theorem small1 : ∀ n < 12, Builtin.Range.small 0 ((n : Nat) : Int) 1 = true ∧ Builtin.Range.rangeSize 0 ((n : Nat) : Int) 1 = ((n : Nat) : Int) := by decide +kernel
theorem law_dep : callerA.depth + 1 + 600 < recursionLimit := by decide
theorem slice_head (a b : List Nat) : Txt.slice (S (a ++ b)) none (some ((a.length : Nat) : Int)) = S a := by
  have := beq_iff_eq.mp (slice_closes_to (x := S (a ++ b)) (j := ((a.length : Nat) : Int)) ⟨by omega, by simp [S]; omega⟩)
  rw [this]
  simp [S]
theorem nk_inj {a b : Nat} (h : S [110, 48 + a] = S [110, 48 + b]) : a = b := by
  have := congrArg (fun z : Str => z.cps.toList) h
  simp [S] at this
  exact this
theorem HomesOk.put {txt : List Nat} {nm : Nat → Nat → Option Nat} {rows : List Row} {D : List (PyData × PyData)} {ks ks' : List Nat} {k r : Nat} (h : HomesOk txt nm rows D ks) (hk : k < 10) (hd : Den txt nm rows r (.name k)) (hs : ∀ x ∈ ks', x = k ∨ x ∈ ks) :
    HomesOk txt nm rows (putD (.str (S [110, 48 + k])) (.int (nI r)) D) ks' := by
  intro x hx
  have ke : KeyEnc PyData.str := keyEnc_str
  by_cases e : x = k
  · subst e
    exact ⟨hk, r, lookup_putK_same ke _ _ _, hd⟩
  · obtain ⟨h1, r', h2, h3⟩ := h x ((hs x hx).resolve_left e)
    exact ⟨h1, r', (lookup_putK_other ke (fun q => e (nk_inj q)) _ _).trans h2, h3⟩
/-- what stays while the rules are told -/
structure LawAt (prog : Program) (w : World) (C : Led) (Dr Dh : Addr) (txt : List Nat) (nm : Nat → Nat → Option Nat) (n : Led) (rows : List Row) (D : List (PyData × PyData)) (ks : List Nat) : Prop where
  c : ∀ p ∈ C, p ∈ n
  r : RowsAt n [Dr, Dh] Dr rows
  l : InL [Dr, Dh] n
  h : HomesAt prog w n Dh D
  o : HomesOk txt nm rows D ks
section
variable {prog : Program} {w : World} {C : Led} {Dr Dh : Addr} {txt : List Nat} {nm : Nat → Nat → Option Nat} {n n' : Led} {rows : List Row} {D : List (PyData × PyData)} {ks : List Nat}
theorem LawAt.sub (a : LawAt prog w C Dr Dh txt nm n rows D ks) {ks' : List Nat} (h : ∀ x ∈ ks', x ∈ ks) : LawAt prog w C Dr Dh txt nm n rows D ks' := ⟨a.c, a.r, a.l, a.h, a.o.sub h⟩
theorem LawAt.sup (a : LawAt prog w C Dr Dh txt nm n rows D ks) (k : ∀ p ∈ n, p ∈ n') : LawAt prog w C Dr Dh txt nm n' rows D ks :=
  ⟨fun p hp => k _ (a.c p hp), a.r.sup k, a.l.sup k, by obtain ⟨o, kvs, h1, h2⟩ := a.h; exact ⟨o, kvs, k _ h1, h2⟩, a.o⟩
theorem LawAt.off (a : LawAt prog w C Dr Dh txt nm n rows D ks) {I : Addr} (hC : ∀ p ∈ C, p.1 ≠ I) (h1 : Dr ≠ I) (h2 : Dh ≠ I) (hO : Off [I] n n') : LawAt prog w C Dr Dh txt nm n' rows D ks := by
  refine ⟨fun p hp => hO p (a.c p hp) (.inr (by simpa using hC p hp)), a.r.monoO fun p hp _ ho => hO p hp (.inl ho), fun e he => ?_, ?_, a.o⟩
  · obtain ⟨o, m⟩ := a.l e he
    refine ⟨o, hO _ m (.inr ?_)⟩
    simp at he
    rcases he with rfl | rfl
    · simpa using h1
    · simpa using h2
  · obtain ⟨o, kvs, m1, q⟩ := a.h
    exact ⟨o, kvs, hO _ m1 (.inr (by simpa using h2)), q⟩
theorem LawAt.read (a : LawAt prog w C Dr Dh txt nm n rows D ks) {more : List Row} (hC : ∀ p ∈ C, p.1 ≠ Dr) (h2 : Dh ≠ Dr) (k : ∀ p ∈ n, p.1 ≠ Dr → p ∈ n') (r : RowsAt n' [Dr, Dh] Dr (rows ++ more)) : LawAt prog w C Dr Dh txt nm n' (rows ++ more) D ks := by
  refine ⟨fun p hp => k p (a.c p hp) (hC p hp), r, ?_, a.h.mono h2 k, a.o.more more⟩
  obtain ⟨_, vs, c, m, _⟩ := r
  exact a.l.sub k m
theorem LawAt.set (a : LawAt prog w C Dr Dh txt nm n rows D ks) {o' : Obj} {D' : List (PyData × PyData)} {ks' : List Nat} (hC : ∀ p ∈ C, p.1 ≠ Dh) (h2 : Dr ≠ Dh) (h : HomesAt prog w (put Dh o' n) Dh D') (o : HomesOk txt nm rows D' ks') : LawAt prog w C Dr Dh txt nm (put Dh o' n) rows D' ks' := by
  have k : ∀ p ∈ n, p.1 ≠ Dh → p ∈ put Dh o' n := fun p hp hn => put_ne hp hn
  refine ⟨fun p hp => k p (a.c p hp) (hC p hp), a.r.mono fun p hp hq => k p hp ?_, ?_, h, o⟩
  · rcases hq with hq | hq
    · exact fun e => hq (by simp [e])
    · rw [hq]; exact h2
  · obtain ⟨o2, _, m, _⟩ := h
    exact a.l.sub k m
end
end Vy
end
section
open PyProof.V PyProof.Rows.LCg PySem.Builtin
namespace Vy
theorem RSm.kids {r : Row} (h : RSm r) : r.kids.length ≤ 1000 := by
  cases r with
  | word x => exact Nat.zero_le _
  | all ks => exact h
  | any ks => exact h
  | neg k => show 1 ≤ 1000; decide
  | look k => show 1 ≤ 1000; decide
theorem ints_ofE {f : Nat → Int} : ∀ (n : Nat) {ys : List Value}, ys.length = n → (∀ i y, ys[i]? = some y → ∃ t, y = Value.int (f i) t) → IntsAre ys ((List.range n).map f) := by
  intro n ys hl h
  have key : ∀ (ys : List Value) (k : Nat), (∀ i y, ys[i]? = some y → ∃ t, y = Value.int (f (k + i)) t) → IntsAre ys ((List.range' k ys.length).map f) := by
    intro ys
    induction ys with
    | nil => intro k _; exact .nil
    | cons y r ih =>
      intro k h
      obtain ⟨t, rfl⟩ := h 0 y rfl
      have := ih (k + 1) fun i y' e => by
        have := h (i + 1) y' (by simpa using e)
        rw [show k + 1 + i = k + (i + 1) from by omega]; exact this
      exact .cons _ t this
  have := key ys 0 fun i y e => by rw [Nat.zero_add]; exact h i y e
  rw [hl] at this
  rw [List.range_eq_range']
  exact this
/-- a column of the table, off the table's own place -/
def ColE (n : Led) (De : Addr) (v : Value) (len : Nat) (f : Nat → Option Nat) : Prop :=
  ∃ b vs c, v = .ref b ∧ b ≠ De ∧ (b, listOf (List.toArray vs) c) ∈ n ∧ IntsAre vs ((List.range len).map fun p => encE (f p))
theorem ColE.mono {n n' : Led} {De : Addr} {v : Value} {len : Nat} {f : Nat → Option Nat} (h : ColE n De v len f) (k : ∀ p ∈ n, p.1 ≠ De → ord p.2 → p ∈ n') : ColE n' De v len f := by
  obtain ⟨b, vs, c, e, h1, h2, h3⟩ := h
  exact ⟨b, vs, c, e, h1, k _ h2 h1 (ord_list _ _), h3⟩
theorem ColE.at {n : Led} {De : Addr} {v : Value} {len : Nat} {f : Nat → Option Nat} (h : ColE n De v len f) : ColAt n v len f := by
  obtain ⟨b, vs, c, e, h1, h2, h3⟩ := h
  exact ⟨b, vs, c, e, h2, h3⟩
/-- the table's first i columns -/
def Cols (n : Led) (De : Addr) (len : Nat) (f : Nat → Nat → Option Nat) (i : Nat) (cols : List Value) : Prop := cols.length = i ∧ ∀ k, k < i → ∃ cv, cols[k]? = some cv ∧ ColE n De cv len (f k)
theorem Cols.mono {n n' : Led} {De : Addr} {len i : Nat} {f : Nat → Nat → Option Nat} {cols : List Value} (h : Cols n De len f i cols) (k : ∀ p ∈ n, p.1 ≠ De → ord p.2 → p ∈ n') : Cols n' De len f i cols :=
  ⟨h.1, fun j hj => let ⟨cv, e, q⟩ := h.2 j hj; ⟨cv, e, q.mono k⟩⟩
theorem Cols.snoc {n : Led} {De : Addr} {len i : Nat} {f : Nat → Nat → Option Nat} {cols : List Value} {v : Value} (h : Cols n De len f i cols) (hv : ColE n De v len (f i)) : Cols n De len f (i + 1) (cols ++ [v]) := by
  refine ⟨by simp [h.1], fun j hj => ?_⟩
  by_cases e : j < i
  · obtain ⟨cv, q, r⟩ := h.2 j e
    exact ⟨cv, by rw [List.getElem?_append_left (by rw [h.1]; exact e)]; exact q, r⟩
  · have e : j = i := by omega
    subst e
    exact ⟨v, by rw [List.getElem?_append_right (by rw [h.1]; exact Nat.le_refl _), h.1, Nat.sub_self]; rfl, hv⟩
end Vy
end
section
open PyProof.V PyProof.Rows.LCg PySem.Builtin
namespace Vy
theorem law_try : PySem.Challenge.rw_vy0011_01.Holds := by
  refine Vy.hd ?_
  k_go0
  rename Top topProg _ _ _ _ _ => T
  rename Frag.In _ _ => X
  rename Below _ _ _ _ => K0
  rename Fr _ _ _ _ => F
  rename News _ _ _ _ => N
  rename IntsAre _ _ => hI
  rename Shared => s1
  rename World => w0
  rename Heap => h'
  rename List Int => sc
  rename List Value => svs
  dsimp only at F N ⊢
  generalize hgn0 : s1.gens = gn
  have hgn : gn = #[] := hgn0.symm.trans (by assumption)
  generalize s1.drawn = dr
  generalize s1.os = os0
  obtain ⟨q1, q2, q3, q4, hq1, hq2, hq3, hq4, N⟩ : ∃ q1 q2 q3 q4 : Obj, q1.data = .cell none ∧ q2.data = .cell none ∧ q3.data = .cell none ∧ q4.data = .cell none ∧ News _ _ h' [(_, q1), (_, q2), (_, q3), (_, q4), (176, tabObj #[])] := ⟨_, _, _, _, by assumption, by assumption, by assumption, by assumption, N⟩
  have l176 : 176 < s1.heap.objs.size := by assumption
  obtain ⟨nw, mT, mc1, mc2, mc3, mc4, N⟩ : ∃ nw : Led, (176, tabObj #[]) ∈ nw ∧ (s1.heap.objs.size + 1, q4) ∈ nw ∧ (s1.heap.objs.size + 1 + 1, q3) ∈ nw ∧ (s1.heap.objs.size + 1 + 1 + 1, q2) ∈ nw ∧ (s1.heap.objs.size + 1 + 1 + 1 + 1, q1) ∈ nw ∧ News _ _ h' nw :=
    ⟨_, .tail _ (.tail _ (.tail _ (.tail _ (.head _)))), .tail _ (.tail _ (.tail _ (.head _))), .tail _ (.tail _ (.head _)), .tail _ (.head _), .head _, N⟩
  repeat kp_kind "s"
  rename Heap.IsList (ghostOf _ _) _ _ => hsl
  refine LCg.ListComp_U F rfl (by decide) rfl (by decide) rfl ?_
  repeat kp_kind "s"
  rename ¬ ((63 : Nat) : Int) < _ => hlen
  have hscl : sc.length ≤ 63 := by omega
  have hsvl : svs.length = sc.length := hI.length
  have hA2 := ints_all2 hI
  refine kmk_slice_lit F N (list_up hsl F.keep) .none (.int 3 _) (pick_upto (b := 3)) (fun D1 h' F N lD1 => ?_) (by with_unfolding_all rfl) (by intro _; with_unfolding_all rfl) (by rw [List.size_toArray, sizeLine_eq]; omega)
  repeat kp_kind "s"
  refine r_newList F N (by show 3 ≤ sizeLine; decide) (fun D2 h' F N lD2 => ?_)
  repeat kp_kind "s"
  refine kmk_slice_lit F N (list_up hsl F.keep) .none (.int 3 _) (pick_upto (b := 3)) (fun D3 h' F N lD3 => ?_) (by with_unfolding_all rfl) (by intro _; with_unfolding_all rfl) (by rw [List.size_toArray, sizeLine_eq]; omega)
  repeat kp_kind "s"
  first | with_reducible refine r_len N (.head _) (by rw [List.size_toArray, sizeLine_eq, List.length_take]; omega) ?_ | refine r_len N (.head _) (by rw [List.size_toArray, sizeLine_eq, List.length_take]; omega) ?_
  generalize hql : (List.toArray (List.take 3 svs)).size = ql
  have hql2 : ql = min 3 sc.length := by rw [← hql, List.size_toArray, List.length_take, hsvl]
  repeat kp_kind "s"
  refine slice_temp F N (News.isList N (.tail _ (.head _))) (.int _ _) .none (pick_from (a := ql) (vs := [_, _, _])) (fun D4 h' F N lD4 => ?_) (by with_unfolding_all rfl) (by show 3 ≤ sizeLine; decide)
  repeat kp_kind "s"
  refine PyProof.Rows.add_lists F N (News.isList N (.tail _ (.tail _ (.tail _ (.head _))))) (News.isList N (.head _)) (fun h' F N => ?_) (by rw [List.length_take, sizeLine_eq, List.length_drop]; simp; omega)
  have hints : ∀ t0 t1 t2, IntsAre (List.take 3 svs ++ List.drop ql [Value.int 0 t0, .int 1 t1, .int 2 t2]) (List.take 3 sc ++ List.drop ql [(0 : Int), 1, 2]) := fun t0 t1 t2 => (hI.take 3).append (IntsAre.drop (.cons _ _ (.cons _ _ (.cons _ _ .nil))) ql)
  have hW : lawW sc = (List.take 3 sc ++ List.drop ql [(0 : Int), 1, 2]).map wordI := by rw [hql2]; rfl
  refine CompSrc.ledger rfl F N (.head _) (by rw [List.size_toArray, List.length_append, List.length_take, List.length_drop, sizeLine_eq]; simp; omega) (fun gg => comp_restC (Y := fun i y => ∃ t, y = .str (S (wordI ((List.take 3 sc ++ List.drop ql [(0 : Int), 1, 2]).getD i 0))) t) (.inr ⟨_, .head _, rfl, _, rfl⟩) ?_ ?_ _ 0 [] (Nat.zero_add _) rfl (fun j y hj => by simp at hj))
  · intro i v C oC m₂ h' tk news2 E' hP hC hN hx F N sub
    have hP : (List.take 3 svs ++ List.drop ql _).toArray[i]? = some v := hP
    rw [List.getElem?_toArray] at hP
    obtain ⟨z, tz, rfl, hz⟩ := ints_at (hints _ _ _) i v hP
    refine Subscript_ ?_
    refine name_compK F X (topRead_of T) (by k_is) ?_
    refine wpAny_BinOp ?_
    refine name_comp hN (N _ hC).1 hx ?_
    repeat kp_kind "s"
    first | with_reducible refine PyProof.Rows.mod_int (by decide) ?_ | refine PyProof.Rows.mod_int (by decide) ?_
    repeat kp_kind "s"
    obtain ⟨lw, hlw, hlo, hli⟩ := words_tup (w := _) (X.keeps F.keep)
    have hz0 : 0 ≤ z.fmod 12 := Int.fmod_nonneg_of_pos z (by decide)
    have hz1 : z.fmod 12 < 12 := Int.fmod_lt_of_pos z (by decide)
    obtain ⟨tw, htw⟩ := hli (z.fmod 12).toNat (by omega)
    refine item_tupleL (j := (z.fmod 12).toNat) ⟨_, hlo, rfl, 0, rfl⟩ (by omega) (by omega) (StrLaws.seqIndex_nonneg (by omega) (by omega)) htw ?_
    refine ⟨h', _, rfl, F, N, tw, ?_⟩
    rw [show (List.take 3 sc ++ List.drop ql [(0 : Int), 1, 2]).getD i 0 = z from by rw [List.getD_eq_getElem?_getD, hz]; rfl]
    rfl
  · intro ys hyl hys Dw h' tk F N oD
    refine storeC (c := s1.heap.objs.size + 1) F N rfl (.tail _ (.tail _ (.tail _ (.tail _ (.tail _ (.tail _ mc1)))))) hq4 (fun h' q4' F N hq4' => ?_)
    have ne : ∀ p ∈ nw, p.1 ≠ Dw := fun p hp => off1_ne oD p (.tail _ (.tail _ (.tail _ (.tail _ (.tail _ hp)))))
    have neW2 := Ne.symm (ne _ mc2)
    have neW3 := Ne.symm (ne _ mc3)
    have neW4 := Ne.symm (ne _ mc4)
    obtain ⟨nw2, mT, mW, mc1, mc2, mc3, mc4, N⟩ : ∃ nw2 : Led, (176, tabObj #[]) ∈ nw2 ∧ (Dw, lst ys) ∈ nw2 ∧ (s1.heap.objs.size + 1, q4') ∈ nw2 ∧ (s1.heap.objs.size + 1 + 1, q3) ∈ nw2 ∧ (s1.heap.objs.size + 1 + 1 + 1, q2) ∈ nw2 ∧ (s1.heap.objs.size + 1 + 1 + 1 + 1, q1) ∈ nw2 ∧ News _ _ h' nw2 :=
      ⟨_, put_ne (.tail _ (.tail _ (.tail _ (.tail _ (.tail _ (.tail _ mT)))))) (by show @Ne Nat _ _; omega), put_ne (.head _) (Ne.symm (ne _ mc1)), put_self (.tail _ (.tail _ (.tail _ (.tail _ (.tail _ (.tail _ mc1)))))), put_ne (.tail _ (.tail _ (.tail _ (.tail _ (.tail _ (.tail _ mc2)))))) (by show @Ne Nat _ _; omega), put_ne (.tail _ (.tail _ (.tail _ (.tail _ (.tail _ (.tail _ mc3)))))) (by show @Ne Nat _ _; omega), put_ne (.tail _ (.tail _ (.tail _ (.tail _ (.tail _ (.tail _ mc4)))))) (by show @Ne Nat _ _; omega), N⟩
    clear ne oD
    repeat kp_kind "s"
    refine GM.join ?_
    first | with_reducible refine callWith_method1 ?_ | refine callWith_method1 ?_
    repeat kp_kind "s"
    refine LCg.ListComp_U F rfl (by decide) rfl (by decide) rfl ?_
    repeat kp_kind "s"
    refine kmk_slice_lit F N (list_up hsl F.keep) (.int 3 _) (.int 7 _) (pick_mid (a := 3) (b := 7) (by decide)) (fun D5 h' F N lD5 => ?_) (by with_unfolding_all rfl) (by intro _; with_unfolding_all rfl) (by rw [List.size_toArray, sizeLine_eq]; omega)
    have hints2 : IntsAre (List.take (7 - 3) (List.drop 3 svs)) (List.take 4 (List.drop 3 sc)) := (hI.drop 3).take 4
    refine CompSrc.ledger rfl F N (.head _) (by rw [List.size_toArray, List.length_take, sizeLine_eq]; omega) (fun gg => comp_restC (Y := fun i y => ∃ t, y = .str (S ((lawW sc).getD (((List.take 4 (List.drop 3 sc)).getD i 0).fmod 3).toNat [])) t) (.inr ⟨_, .head _, rfl, _, rfl⟩) ?_ ?_ _ 0 [] (Nat.zero_add _) rfl (fun j y hj => by simp at hj))
    · intro i v C oC m₂ h' tk news2 E' hP hC hN hx F N sub
      have hP : (List.take (7 - 3) (List.drop 3 svs)).toArray[i]? = some v := hP
      rw [List.getElem?_toArray] at hP
      obtain ⟨z, tz, rfl, hz⟩ := ints_at hints2 i v hP
      refine Subscript_ ?_
      refine name_compF (c := s1.heap.objs.size + 1) N rfl (sub _ (.tail _ mc1)) hq4' ?_
      refine wpAny_BinOp ?_
      refine name_comp hN (N _ hC).1 hx ?_
      repeat kp_kind "s"
      first | with_reducible refine PyProof.Rows.mod_int (by decide) ?_ | refine PyProof.Rows.mod_int (by decide) ?_
      repeat kp_kind "s"
      have hz0 : 0 ≤ z.fmod 3 := Int.fmod_nonneg_of_pos z (by decide)
      have hz1 : z.fmod 3 < 3 := Int.fmod_lt_of_pos z (by decide)
      have hyl3 : ys.length = 3 := by rw [hyl, List.size_toArray, (hints _ _ _).length, ← List.length_map (f := wordI), ← hW, lawW_len]
      have hzl : (z.fmod 3).toNat < ys.length := by omega
      obtain ⟨tw, htw⟩ := hys (z.fmod 3).toNat _ (List.getElem?_eq_getElem hzl)
      rw [show z.fmod 3 = (((z.fmod 3).toNat : Nat) : Int) from by omega]
      first | with_reducible refine r_item N (sub _ (.tail _ mW)) (by omega) (List.getElem?_eq_getElem hzl) ?_ | refine r_item N (sub _ (.tail _ mW)) (by omega) (List.getElem?_eq_getElem hzl) ?_
      refine ⟨h', _, rfl, F, N, tw, ?_⟩
      rw [htw, show (List.take 4 (List.drop 3 sc)).getD i 0 = z from by rw [List.getD_eq_getElem?_getD, hz]; rfl, hW]
      rw [map_getD (a := (0 : Int)) (by rw [← List.length_map (f := wordI), ← hW, lawW_len]; omega)]
    · intro ys2 hyl2 hys2 Dt h' tk F N oD
      repeat kp_kind "s"
      have htw : (lawT sc).length ≤ 8 := lawT_len sc
      have hal := strs_of (ns := (List.take 4 (List.drop 3 sc)).map fun z => (lawW sc).getD (z.fmod 3).toNat []) (ys := ys2) (by rw [hyl2, List.size_toArray, hints2.length, List.length_map]) (fun i y e => by
        have e0 := lt_get e
        obtain ⟨t, e⟩ := hys2 i y e
        exact ⟨t, by rw [e, map_getD (by rw [hyl2, List.size_toArray, hints2.length] at e0; exact e0)]⟩)
      refine PyProof.Rows.join_list (ys := ((List.take 4 (List.drop 3 sc)).map fun z => (lawW sc).getD (z.fmod 3).toNat []).map S) (News.isList N (.head _)) ?_ ?_ (fun t' tkk => ?_)
      · exact strsAre_of2 hal
      · rw [sum_S, show (Str.ofString "").length = 0 from rfl, Nat.mul_zero]; exact Nat.le_trans htw (by decide)
      rw [show Txt.join (Str.ofString "") (((List.take 4 (List.drop 3 sc)).map fun z => (lawW sc).getD (z.fmod 3).toNat []).map S) = S (lawT sc) from (StrLaws.glued_eq_join _ _).trans (join_flat _)]
      repeat kp_kind "s"
      refine storeC (c := s1.heap.objs.size + 1 + 1) F N rfl (.tail _ (.tail _ mc2)) hq3 (fun h' q3' F N hq3' => ?_)
      have ne : ∀ p ∈ nw2, p.1 ≠ Dt := fun p hp => off1_ne oD p (.tail _ hp)
      obtain ⟨nw3, mT, mW, mc1, mc2, mc3, mc4, N⟩ : ∃ nw3 : Led, (176, tabObj #[]) ∈ nw3 ∧ (Dw, lst ys) ∈ nw3 ∧ (s1.heap.objs.size + 1, q4') ∈ nw3 ∧ (s1.heap.objs.size + 1 + 1, q3') ∈ nw3 ∧ (s1.heap.objs.size + 1 + 1 + 1, q2) ∈ nw3 ∧ (s1.heap.objs.size + 1 + 1 + 1 + 1, q1) ∈ nw3 ∧ News _ _ h' nw3 :=
        ⟨_, put_ne (.tail _ (.tail _ mT)) (by show @Ne Nat _ _; omega), put_ne (.tail _ (.tail _ mW)) neW2, put_ne (.tail _ (.tail _ mc1)) (by show @Ne Nat _ _; omega), put_self (.tail _ (.tail _ mc2)), put_ne (.tail _ (.tail _ mc3)) (by show @Ne Nat _ _; omega), put_ne (.tail _ (.tail _ mc4)) (by show @Ne Nat _ _; omega), N⟩
      clear ne oD
      repeat kp_kind "s"
      refine nameX_C (c := s1.heap.objs.size + 1) N rfl mc1 hq4' ?_
      repeat kp_kind "s"
      refine kmk_slice_lit F N (list_up hsl F.keep) (.int 7 _) (.int 25 _) (pick_mid (a := 7) (b := 25) (by decide)) (fun D6 h' F N lD6 => ?_) (by with_unfolding_all rfl) (by intro _; with_unfolding_all rfl) (by rw [List.size_toArray, sizeLine_eq]; omega)
      repeat kp_kind "s"
      have hyl3 : ys.length = 3 := by rw [hyl, List.size_toArray, (hints _ _ _).length, ← List.length_map (f := wordI), ← hW, lawW_len]
      have hwA := strs_of (ns := lawW sc) (ys := ys) (by rw [hyl3, lawW_len]) (fun i y e => by
        have e0 := lt_get e
        obtain ⟨t, e⟩ := hys i y e
        exact ⟨t, by rw [e, hW, map_getD (a := (0 : Int)) (by rw [← List.length_map (f := wordI), ← hW, lawW_len]; omega)]⟩)
      have hints3 : IntsAre (List.take (25 - 7) (List.drop 7 svs)) (List.take 18 (List.drop 7 sc)) := (hI.drop 7).take 18
      have po : ProgOk PySem.Challenge.rw_vy0011_01.row.prog := ⟨by decide, by decide⟩
      refine made_spec (tn := ((sc.drop 7).take 18).length / 3) ⟨[], [], [], lawT sc, 0, 0, 0⟩ po (lawW_len sc) hwA (fun x hx => Nat.le_trans (lawW_ok x hx).1 (by decide)) (ints_all2 hints3) rfl (by rw [List.length_take]; omega) (gd_law X T K0 rfl rfl) F N (by rw [depth_deeper]; decide) rfl (.tail _ mW) (.head _) (fun Dm y cm h' tk nw4 F N sub4 hye hyt hM hDm => ?_)
      repeat kp_kind "s"
      have N0 := N
      refine storeC (c := s1.heap.objs.size + 1 + 1 + 1) F N rfl (sub4 _ (.tail _ mc3)) hq2 (fun h' q2' F N hq2' => ?_)
      have hput := put_nc (q' := q2') N0 (sub4 _ (.tail _ mc3)) hq2
      obtain ⟨nw5, mT, mM5, mD5, mc1, mc2, mc3, mc4, N⟩ : ∃ nw5 : Led, (176, tabObj #[]) ∈ nw5 ∧ MAt y nw5 ∧ (Dm, listOf (List.toArray (y.ads.map .ref)) cm) ∈ nw5 ∧ (s1.heap.objs.size + 1, q4') ∈ nw5 ∧ (s1.heap.objs.size + 1 + 1, q3') ∈ nw5 ∧ (s1.heap.objs.size + 1 + 1 + 1, q2') ∈ nw5 ∧ (s1.heap.objs.size + 1 + 1 + 1 + 1, q1) ∈ nw5 ∧ News _ _ h' nw5 :=
        ⟨_, hput _ (sub4 _ (.tail _ mT)) (fun v q => (nomatch q)), hM.offD hput, hput _ hDm (fun v q => (nomatch q)), put_ne (sub4 _ (.tail _ mc1)) (by show @Ne Nat _ _; omega), put_ne (sub4 _ (.tail _ mc2)) (by show @Ne Nat _ _; omega), put_self (sub4 _ (.tail _ mc3)), put_ne (sub4 _ (.tail _ mc4)) (by show @Ne Nat _ _; omega), N⟩
      clear sub4 hDm hM hput N0
      repeat kp_kind "s"
      refine nameX_C (c := s1.heap.objs.size + 1 + 1 + 1) N rfl mc3 hq2' ?_
      have hml : y.ads.length = ((sc.drop 7).take 18).length / 3 + 2 := by rw [mM5.la, hye, madeR_len]
      repeat kp_kind "s"
      first | with_reducible refine r_len N mD5 (by rw [List.size_toArray, List.length_map, hml, List.length_take, sizeLine_eq]; omega) ?_ | refine r_len N mD5 (by rw [List.size_toArray, List.length_map, hml, List.length_take, sizeLine_eq]; omega) ?_
      repeat kp_kind "s"
      have hnE : y.exs.length = ((sc.drop 7).take 18).length / 3 + 2 := by rw [hye, madeR_len]
      have hnE8 : y.exs.length ≤ 8 := by rw [hnE, List.length_take]; omega
      refine r_sub (c := nI (y.exs.length - 1)) (by rw [List.size_toArray, List.length_map, hml, ← hnE]; show ((y.exs.length : Int) - 1 = ((y.exs.length - 1 : Nat) : Int)); omega) ?_
      repeat kp_kind "s"
      have N0 := N
      refine storeC (c := s1.heap.objs.size + 1 + 1 + 1 + 1) F N rfl mc4 hq1 (fun h' q1' F N hq1' => ?_)
      have hput := put_nc (q' := q1') N0 mc4 hq1
      obtain ⟨nw6, mT, mM6, mD6, mc1, mc2, mc3, mc4, N⟩ : ∃ nw5 : Led, (176, tabObj #[]) ∈ nw5 ∧ MAt y nw5 ∧ (Dm, listOf (List.toArray (y.ads.map .ref)) cm) ∈ nw5 ∧ (s1.heap.objs.size + 1, q4') ∈ nw5 ∧ (s1.heap.objs.size + 1 + 1, q3') ∈ nw5 ∧ (s1.heap.objs.size + 1 + 1 + 1, q2') ∈ nw5 ∧ (s1.heap.objs.size + 1 + 1 + 1 + 1, q1') ∈ nw5 ∧ News _ _ h' nw5 :=
        ⟨_, hput _ mT (fun v q => (nomatch q)), mM5.offD hput, hput _ mD5 (fun v q => (nomatch q)), put_ne mc1 (by show @Ne Nat _ _; omega), put_ne mc2 (by show @Ne Nat _ _; omega), put_ne mc3 (by show @Ne Nat _ _; omega), put_self mc4, N⟩
      clear mM5 mD5 hput N0
      repeat kp_kind "s"
      refine r_newList F N (by show 0 ≤ sizeLine; decide) (fun Dr h' F N lDr => ?_)
      repeat kp_kind "s"
      refine newDict_K F N T.nolimit (fun Dh h' oh F N lDh hlo hdk hdf _ _ => ?_)
      repeat kp_kind "s"
      first | with_reducible refine PyProof.Rows.callWith_type1 ?_ | refine PyProof.Rows.callWith_type1 ?_
      repeat kp_kind "s"
      refine nameX_C (c := s1.heap.objs.size + 1 + 1 + 1) N rfl (.tail _ (.tail _ mc3)) hq2' ?_
      repeat kp_kind "s"
      first | with_reducible refine r_len N (.tail _ (.tail _ mD6)) (by rw [List.size_toArray, List.length_map, hml, List.length_take, sizeLine_eq]; omega) ?_ | refine r_len N (.tail _ (.tail _ mD6)) (by rw [List.size_toArray, List.length_map, hml, List.length_take, sizeLine_eq]; omega) ?_
      repeat kp_kind "s"
      have hsz8 : (List.toArray (List.map Value.ref y.ads)).size = y.exs.length := by rw [List.size_toArray, List.length_map, hml, ← hnE]
      rw [hsz8]
      refine range1_rows F N (fun h' tk ta tb tc hr F N keepr => ?_)
      have hDhr : Dr < Dh := lDh _ (.head _)
      have hCr : ∀ p ∈ nw6, p.1 ≠ Dr := fun p hp => Nat.ne_of_lt (lDr p hp)
      have hCh : ∀ p ∈ nw6, p.1 ≠ Dh := fun p hp => Nat.ne_of_lt (lDh p (.tail _ hp))
      have wf : WF y.exs := by rw [hye]; exact madeR_wf _
      have sh : ∀ r ∈ y.exs, Shaped r := by rw [hye]; exact madeR_shaped _
      have wds : ∀ x, Row.word x ∈ y.exs → x.length ≤ 4 ∧ ∀ c ∈ x, c ∈ AC := by rw [hye]; exact madeR_words lawW_ok _
      refine r_iterRange (n := y.exs.length) rfl rfl rfl F N hr (small1 _ (by omega)).1 (small1 _ (by omega)).2
        (fun I i mm n => mm "rows" = some (.ref Dr) ∧ mm "homes" = some (.ref Dh) ∧ ∃ num tn rows D, mm "number" = some (.int (nI num) tn) ∧ LawAt PySem.Challenge.rw_vy0011_01.row.prog _ nw6 Dr Dh (lawT sc) (nmE (lawT sc) y.exs) n rows D ((List.range i).filter fun j => decide (j % 2 = 1)) ∧ D.length ≤ i ∧ (i ≤ 7 → rows.length ≤ 80 * i) ∧ rows.length ≤ 900 ∧ (i = y.exs.length → Den (lawT sc) (nmE (lawT sc) y.exs) rows num (tr y.exs (y.exs.length - 1))))
        (fun I i mm n n' hlt hO ⟨j1, j2, num, tn, rows, D, j3, j4, j5, j6, j7, j8⟩ => ⟨j1, j2, num, tn, rows, D, j3, j4.off (fun p hp => hlt p (.tail _ (.tail _ hp))) (hlt _ (.tail _ (.head _))) (hlt _ (.head _)) hO, j5, j6, j7, j8⟩)
        (fun I hI => ⟨rfl, rfl, 0, _, [], [], rfl, ⟨fun p hp => .tail _ (.tail _ hp), ⟨.head _, [], 0, .tail _ (.head _), .nil, fun i r e => by simp at e, fun r h => (nomatch h)⟩, fun e he => ?_, ⟨_, _, .head _, hdk, hdf, hlo⟩, fun k hk => by simp at hk⟩, Nat.le_refl _, fun _ => Nat.zero_le _, Nat.zero_le _, fun e => by omega⟩) ?_ ?_
      · simp at he
        rcases he with rfl | rfl
        · exact ⟨_, .tail _ (.head _)⟩
        · exact ⟨_, .head _⟩
      · intro I i tv mm n3 h' tk₁ it hI hi ⟨j1, j2, num, tn, rows, D, j3, j4, j5, j6, j7, j8⟩ hit hcit F N
        have hki : (0 + (i : Int) * 1) = nI i := by simp only [nI]; omega
        rw [hki] at F
        have hfm : ((nI i).fmod 2 != 0) = decide (i % 2 = 1) := by
          have : (nI i).fmod 2 = (((i % 2 : Nat)) : Int) := by
            rw [Int.fmod_eq_emod_of_nonneg _ (by decide)]; simp only [nI]; omega
          rw [this]
          rcases Nat.mod_two_eq_zero_or_one i with h | h <;> rw [h] <;> rfl
        repeat kp_kind "s"
        refine wpAny_mono (Q := fun b s₂ => b = decide (i % 2 = 1 ∨ i = y.exs.length - 1) ∧ ∃ tk', s₂ = ⟨h', gn, dr, tk', os0⟩) ?_ ?_ (fun _ _ e => e)
        · first | with_reducible refine isTrue_or ?_ | refine isTrue_or ?_
          first | with_reducible refine isTrue_plain ?_ | refine isTrue_plain ?_
          repeat kp_kind "s"
          first | with_reducible refine PyProof.Rows.mod_int (by decide) ?_ | refine PyProof.Rows.mod_int (by decide) ?_
          first | with_reducible refine truthy_int ?_ | refine truthy_int ?_
          rw [hfm]
          by_cases ho : i % 2 = 1
          · first | with_reducible refine itT (decide_eq_true ho) ?_ | refine itT (decide_eq_true ho) ?_
            exact ⟨(decide_eq_true (.inl ho)).symm, _, rfl⟩
          · refine itF (by simpa using ho) ?_
            first | with_reducible refine isTrue_or ?_ | refine isTrue_or ?_
            repeat kp_kind "s"
            refine nameX_C (c := s1.heap.objs.size + 1 + 1 + 1 + 1) N rfl (j4.c _ mc4) hq1' ?_
            first | with_reducible refine eq_int ?_ | refine eq_int ?_
            repeat kp_kind "s"
            have hll : (nI i == nI (y.exs.length - 1)) = decide (i = y.exs.length - 1) := by
              rw [Bool.eq_iff_iff, beq_iff_eq, decide_eq_true_eq]; simp only [nI]; omega
            rw [hll]
            by_cases hl : i = y.exs.length - 1
            · first | with_reducible refine itT (decide_eq_true hl) ?_ | refine itT (decide_eq_true hl) ?_
              exact ⟨(decide_eq_true (.inr hl)).symm, _, rfl⟩
            · refine itF (by simpa using hl) ?_
              refine isTrue_or_nil ?_
              exact ⟨(decide_eq_false (fun h => h.elim ho hl)).symm, _, rfl⟩
        · rintro b s₂ ⟨rfl, tk', rfl⟩
          by_cases hc : i % 2 = 1 ∨ i = y.exs.length - 1
          · first | with_reducible refine itT (decide_eq_true hc) ?_ | refine itT (decide_eq_true hc) ?_
            refine wpAny_execs_cons ?_
            refine wpAny_Assign_Name ?_
            refine wpAny_mono (Q := fun v s₂ => (∃ t, v = .str (S (hdT i)) t) ∧ ∃ tk', s₂ = ⟨h', gn, dr, tk', os0⟩) ?_ ?_ (fun _ _ e => e)
            · repeat kp_kind "s"
              first | with_reducible refine isTrue_plain ?_ | refine isTrue_plain ?_
              repeat kp_kind "s"
              first | with_reducible refine PyProof.Rows.mod_int (by decide) ?_ | refine PyProof.Rows.mod_int (by decide) ?_
              first | with_reducible refine truthy_int ?_ | refine truthy_int ?_
              rw [hfm]
              by_cases ho : i % 2 = 1
              · first | with_reducible refine itT (decide_eq_true ho) ?_ | refine itT (decide_eq_true ho) ?_
                repeat kp_kind "s"
                first | with_reducible refine pctH (by omega) (by omega) (fun t' j => ?_) | refine pctH (by omega) (by omega) (fun t' j => ?_)
                exact ⟨⟨t', by rw [hdT, if_pos ho]⟩, _, rfl⟩
              · refine itF (by simpa using ho) ?_
                repeat kp_kind "s"
                exact ⟨⟨_, by rw [hdT, if_neg ho]; rfl⟩, _, rfl⟩
            · rintro _ s₂ ⟨⟨t0, rfl⟩, tk', rfl⟩
              have hdl : (hdT i).length ≤ 5 := by unfold hdT; split <;> simp
              repeat kp_kind "s"
              refine nameX_C (c := s1.heap.objs.size + 1 + 1 + 1) N rfl (j4.c _ mc3) hq2' ?_
              repeat kp_kind "s"
              have hai : (y.ads.map Value.ref)[i]? = some (.ref (y.ads.getD i 0)) := by
                rw [List.getElem?_map, List.getD_eq_getElem?_getD, List.getElem?_eq_getElem (by rw [mM6.la]; exact hi)]; rfl
              first | with_reducible refine r_item N (j4.c _ mD6) (by omega) hai ?_ | refine r_item N (j4.c _ mD6) (by omega) hai ?_
              have hir : y.exs[i]? = some y.exs[i] := List.getElem?_eq_getElem hi
              have hexs : ∀ j rj, j ≤ i → y.exs[j]? = some rj → ExAt n3 y.ads [] 0 j rj := fun j rj _ e => by
                obtain ⟨h1, h2⟩ := mM6.ex j rj e
                exact (h1.offD fun p hp _ => j4.c p hp).ex (j4.c _ h2)
              refine ex_rule F X N (hexs i _ (Nat.le_refl _) hir) rfl ?_
              refine callWith_K0 (X.keeps F.keep) (by k_is) ?_
              refine wpAny_call ?_
              have hnames := names_tr wf sh hi
              have hwords := words_tr wf sh wds hi
              have hsize := size_tr wf sh hnE8 hi
              have hlens : ∀ j, j ≤ i → (render (tr y.exs j)).length ≤ 1500 := fun j hj => by
                have h1 := render_len (tr y.exs j) (words_tr wf sh wds (by omega))
                have h2 := size_tr wf sh hnE8 (k := j) (by omega)
                have h3 : bnd j ≤ 121 := by unfold bnd; split <;> decide
                omega
              refine rule_spec wf sh hir (fun j hj => by have := (hnames j hj).2; omega) (gd_law X T K0 rfl rfl) F N (by have := law_dep; rw [depth_deeper]; omega) rfl hexs (fun j hj => Nat.le_trans (hlens j hj) (by decide)) (fun h' tt tk F N => ?_)
              have hil := items_len (tr y.exs i)
              have hri := hlens i (Nat.le_refl _)
              have htl : (S (hdT i ++ itemsText (tr y.exs i).inner)).length ≤ 2000 := by rw [S_len, List.length_append]; omega
              repeat kp_kind "s"
              first | with_reducible refine r_lenS (by rw [S_len]; omega) (fun t5 tkk => ?_) | refine r_lenS (by rw [S_len]; omega) (fun t5 tkk => ?_)
              repeat kp_kind "s"
              refine slice_strN_ns (s := ⟨_, _, _, _, _⟩) F N (fun h' t6 tkk F N => ?_) (by with_unfolding_all rfl) (by intro _; with_unfolding_all rfl) (by rw [sizeLine_eq]; omega)
              rw [S_len, slice_head]
              repeat kp_kind "s"
              first | with_reducible refine ne_str ?_ | refine ne_str ?_
              repeat kp_kind "s"
              refine itF (by simp) ?_
              repeat kp_kind "s"
              first | with_reducible refine r_lenS (by rw [S_len]; omega) (fun t7 tkk => ?_) | refine r_lenS (by rw [S_len]; omega) (fun t7 tkk => ?_)
              rw [S_len]
              repeat kp_kind "s"
              have hch : ChoiceSpec PySem.Challenge.rw_vy0011_01.row.prog w0 (lawT sc) (nmE (lawT sc) y.exs) (tr y.exs i) := choice_all _
              have hbi : bnd i ≤ 121 ∧ (i ≤ 6 → bnd i ≤ 40) := by
                have : ∀ i < 8, bnd i ≤ 121 ∧ (i ≤ 6 → bnd i ≤ 40) := by decide
                exact this i (by omega)
              have hcs : (tr y.exs i).csize ≤ 121 := by unfold Tr.csize; split <;> omega
              refine hch (pre := hdT i) (post := []) (ex := [Dr, Dh]) (gd_law X T K0 rfl rfl) F N (by have := law_dep; rw [depth_deeper]; omega) rfl (by rw [S_list, List.append_nil]) (.inl rfl) (by rw [← Str.length]; omega) (by omega) (fun x hx => (hwords x hx).2) j4.r j4.l j4.h (Ne.symm (Nat.ne_of_lt hDhr)) (j4.o.sub fun x hx => ?_) (fun at2 r t8 t9 more h' tk n4 F N keep hrows hmore hden htup => ?_)
              · have := hnames x hx
                simp
                exact ⟨this.2, this.1⟩
              repeat kp_kind "s"
              refine unpackN_ F N (News.isTup N htup) rfl rfl rfl (fun h' F N => ?_)
              repeat kp_kind "s"
              first | with_reducible refine r_lenS (by rw [S_len, List.length_append]; omega) (fun t10 tkk => ?_) | refine r_lenS (by rw [S_len, List.length_append]; omega) (fun t10 tkk => ?_)
              rw [S_len, List.length_append]
              first | with_reducible refine ne_int ?_ | refine ne_int ?_
              repeat kp_kind "s"
              refine itF (by simp) ?_
              repeat kp_kind "s"
              first | with_reducible refine pctN (by omega) (fun t11 tkk => ?_) | refine pctN (by omega) (fun t11 tkk => ?_)
              have j4b := j4.read hCr (Ne.symm (Nat.ne_of_lt hDhr)) keep hrows
              refine homes_set F N j4b.h (by omega) (fun h' oh2 tk F N hH2 => ?_)
              repeat kp_kind "s"
              have hdn : Den (lawT sc) (nmE (lawT sc) y.exs) (rows ++ more) r (.name i) := ⟨hden.1, fun p => (hden.2 p).trans (sem_tr wf sh hi p)⟩
              have hIr : I ≠ Dr := Ne.symm (hI _ (.tail _ (.head _)))
              have hIh : I ≠ Dh := Ne.symm (hI _ (.head _))
              have hkp : ∀ x ∈ (List.range (i + 1)).filter (fun j => decide (j % 2 = 1)), x = i ∨ x ∈ (List.range i).filter (fun j => decide (j % 2 = 1)) := fun x hx => by
                simp only [List.mem_filter, List.mem_range, decide_eq_true_eq] at hx ⊢
                omega
              refine ⟨h', _, _, _, rfl, F, N, put_ne (keep _ hit hIr) hIh, by kp_kind "lk", by kp_kind "lk", r, t8, rows ++ more, _, by kp_kind "lk", j4b.set hCh (Nat.ne_of_lt hDhr) hH2 (j4b.o.put (by omega) hdn hkp), ?_, ?_, ?_, fun e => ?_⟩
              · exact Nat.le_trans (putD_length_le _ _ _) (by omega)
              · intro h7
                rw [List.length_append]
                have h1 := j6 (by omega)
                have h2 := hbi.2 (by omega)
                omega
              · rw [List.length_append]
                have h1 := j6 (by omega)
                omega
              · have e2 : y.exs.length - 1 = i := by omega
                rw [e2]; exact hden
          · refine itF (by simpa using hc) ?_
            repeat kp_kind "s"
            refine ⟨h', _, _, _, rfl, F, N, hit, by kp_kind "lk", by kp_kind "lk", num, tn, rows, D, by kp_kind "lk", j4.sub (fun x hx => ?_), by omega, fun h => by have := j6 (by omega); omega, j7, fun e => absurd (Or.inr (by omega)) hc⟩
            simp only [List.mem_filter, List.mem_range, decide_eq_true_eq] at hx ⊢
            exact ⟨by rcases Nat.lt_or_ge x i with h | h; exact h; exact absurd (.inl (by rw [show i = x from by omega]; exact hx.2)) hc, hx.2⟩
      · intro I mm n3 h' tk₁ hI ⟨j1, j2, num, tn, rows, D, j3, j4, j5, j6, j7, j8⟩ F N
        have hdl := j8 rfl
        repeat kp_kind "s"
        refine r_newList F N (by show 0 ≤ sizeLine; decide) (fun De h' F N lDe => ?_)
        repeat kp_kind "s"
        obtain ⟨_, rvs, rn, mR, hAll, hwfR, hsmR⟩ := j4.r
        have hrl := hAll.length
        have hDe : ∀ p ∈ n3, p.1 ≠ De := fun p hp => Nat.ne_of_lt (lDe p hp)
        refine r_iterList (J := fun I i m n => m "ends" = some (.ref De) ∧ m "number" = some (.int (nI num) tn) ∧ (∀ p ∈ n3, p ∈ n) ∧ ∃ cols nc, (De, listOf (List.toArray cols) nc) ∈ n ∧ Cols n De ((lawT sc).length + 1) (rs (lawT sc) rows) i cols) rfl rfl rfl F N (.tail _ mR) ?_ ?_ ?_ ?_
        · rintro I i m n n' hI hO ⟨k1, k2, k3, cols, nc, k4, k5⟩
          exact ⟨k1, k2, fun p hp => hO p (k3 p hp) (.inr (by simpa using hI p (.tail _ hp))), cols, nc, hO _ k4 (.inl (ord_list _ _)), k5.mono fun p hp _ ho => hO p hp (.inl ho)⟩
        · intro I hI
          exact ⟨by kp_kind "lk", by kp_kind "lk", fun p hp => .tail _ hp, [], 0, .head _, rfl, fun k hk => by omega⟩
        · rintro I i v mm2 n4 h' tk₁ it hI hv ⟨k1, k2, k3, cols, nc, k4, k5⟩ mI mW F N
          have hir : i < rows.length := by have := lt_get hv; omega
          obtain ⟨v', hv', hrow⟩ := hAll.get i rows[i] (List.getElem?_eq_getElem hir)
          rw [hv] at hv'
          cases hv'
          have hIe : I ≠ De := Ne.symm (hI _ (.head _))
          repeat kp_kind "s"
          first | with_reducible refine listMethod_K N k4 PySem.F.slot_list_append PySem.F.type_list_append ?_ | refine listMethod_K N k4 PySem.F.slot_list_append PySem.F.type_list_append ?_
          repeat kp_kind "s"
          refine r_newList F N (by show 0 ≤ sizeLine; decide) (fun Dc h' F N lDc => ?_)
          repeat kp_kind "s"
          refine r_append F N (.tail _ k4) (by rw [List.size_toArray, k5.1, sizeLine_eq]; omega) (fun h' F N => ?_)
          have hDc : ∀ p ∈ n4, p.1 ≠ Dc := fun p hp => Nat.ne_of_lt (lDc p hp)
          have hDce : Dc ≠ De := Ne.symm (hDc _ k4)
          have hN4 : ∀ p ∈ n3, p ∈ n4 := k3
          obtain ⟨nB, b1, b2, b3, N⟩ : ∃ nB : Led, (∀ p ∈ n4, p.1 ≠ De → p ∈ nB) ∧ (De, listOf (List.toArray (cols ++ [.ref Dc])) (nc + 1)) ∈ nB ∧ (Dc, listOf (List.toArray []) 0) ∈ nB ∧ News _ _ h' nB :=
            ⟨_, fun p hp hn => put_ne (.tail _ hp) hn, by have := put_self (o' := listOf ((List.toArray cols).push (.ref Dc)) (nc + 1)) (.tail (Dc, listOf (List.toArray ([] : List Value)) 0) k4); simpa using this, put_ne (.head _) hDce, N⟩
          have b0 : ∀ p ∈ n3, p ∈ nB := fun p hp => b1 p (hN4 p hp) (hDe p hp)
          have hnBe : ∀ p ∈ n3, p.1 ≠ Dc := fun p hp => hDc p (hN4 p hp)
          repeat kp_kind "s"
          first | with_reducible refine PyProof.Rows.callWith_type1 ?_ | refine PyProof.Rows.callWith_type1 ?_
          repeat kp_kind "s"
          refine nameX_C (c := s1.heap.objs.size + 1 + 1) N rfl (b0 _ (j4.c _ mc2)) hq3' ?_
          repeat kp_kind "s"
          first | with_reducible refine r_lenS (by rw [S_len]; omega) (fun t5 tkk => ?_) | refine r_lenS (by rw [S_len]; omega) (fun t5 tkk => ?_)
          rw [S_len]
          repeat kp_kind "s"
          first | with_reducible refine r_add (c := (((lawT sc).length + 1 : Nat) : Int)) (by omega) ?_ | refine r_add (c := (((lawT sc).length + 1 : Nat) : Int)) (by omega) ?_
          repeat kp_kind "s"
          refine range1_rows F N (fun h' tk ta tb tc hr F N keepr => ?_)
          refine r_iterRange (n := (lawT sc).length + 1) rfl rfl rfl F N hr (small1 _ (by omega)).1 (small1 _ (by omega)).2
            (fun I2 q mm n => mm "ends" = some (.ref De) ∧ mm "number" = some (.int (nI num) tn) ∧ mm "row" = some v ∧ (∀ p ∈ nB, p.1 ≠ Dc → p ∈ n) ∧ ∃ cvs cc, (Dc, listOf (List.toArray cvs) cc) ∈ n ∧ IntsAre cvs ((List.range q).map fun z => encE (rs (lawT sc) rows i z)))
            (fun I2 q mm n n' hlt hO ⟨c1, c2, c3, c4, cvs, cc, c5, c6⟩ => ⟨c1, c2, c3, fun p hp hn => hO p (c4 p hp hn) (.inr (by simpa using hlt p hp)), cvs, cc, hO _ c5 (.inl (ord_list _ _)), c6⟩)
            (fun I2 hI2 => ⟨by kp_kind "lk", by kp_kind "lk", by kp_kind "lk", fun p hp _ => hp, [], 0, b3, .nil⟩) ?_ ?_
          · intro I2 q tv m3 n5 h' tk₁ it2 hI2 hq ⟨c1, c2, c3, c4, cvs, cc, c5, c6⟩ hit2 hcit2 F N
            have hkq : (0 + (q : Int) * 1) = nI q := by simp only [nI]; omega
            rw [hkq] at F
            have c0 : ∀ p ∈ n3, p ∈ n5 := fun p hp => c4 p (b0 p hp) (hnBe p hp)
            have c45 : ∀ p ∈ n4, p.1 ≠ De → p ∈ n5 := fun p hp hn => c4 p (b1 p hp hn) (hDc p hp)
            have cE := c4 _ b2 (Ne.symm hDce)
            repeat kp_kind "s"
            first | with_reducible refine neg_int ?_ | refine neg_int ?_
            refine r_itemLast N cE ?_
            first | with_reducible refine listMethod_K N c5 PySem.F.slot_list_append PySem.F.type_list_append ?_ | refine listMethod_K N c5 PySem.F.slot_list_append PySem.F.type_list_append ?_
            repeat kp_kind "s"
            refine nameX_C (c := s1.heap.objs.size + 1 + 1) N rfl (c0 _ (j4.c _ mc2)) hq3' ?_
            repeat kp_kind "s"
            have hsmr := hsmR rows[i] (List.getElem_mem hir)
            refine end_spec (sm := rs (lawT sc) rows) (txt := lawT sc) (gd_law X T K0 rfl rfl) F N (by have := law_dep; rw [depth_deeper]; omega) rfl (hrow.mono fun p hp _ => c0 p hp) cE (S_list _) (by omega) (by omega) (fun x e => by rw [e] at hsmr; exact hsmr) hsmr.kids (fun k hk => ?_) (fun k p q e hp => rs_le hp e) (fun t6 h' tk n6 F N sub6 => ?_)
            · have hki := hwfR i rows[i] (List.getElem?_eq_getElem hir) k hk
              obtain ⟨cv, e1, e2⟩ := k5.2 k hki
              exact ⟨by omega, cv, by rw [List.getElem?_append_left (by rw [k5.1]; exact hki)]; exact e1, (e2.mono fun p hp hn _ => c45 p hp hn).at⟩
            rw [← rs_row hwfR (List.getElem?_eq_getElem hir)]
            repeat kp_kind "s"
            have hcl := c6.length
            simp only [List.length_map, List.length_range] at hcl
            refine r_append F N (sub6 _ c5) (by rw [List.size_toArray, sizeLine_eq]; omega) (fun h' F N => ?_)
            repeat kp_kind "s"
            refine ⟨h', _, _, _, rfl, F, N, put_ne (sub6 _ hit2) (Ne.symm (hI2 _ b3)), by kp_kind "lk", by kp_kind "lk", by kp_kind "lk", fun p hp hn => put_ne (sub6 _ (c4 p hp hn)) hn, cvs ++ [.int (encE (rs (lawT sc) rows i q)) t6], cc + 1, ?_, ?_⟩
            · have := put_self (o' := listOf ((List.toArray cvs).push (.int (encE (rs (lawT sc) rows i q)) t6)) (cc + 1)) (sub6 _ c5)
              simpa using this
            · rw [List.range_succ, List.map_append]
              exact IntsAre.snoc' c6
          · intro I2 m3 n5 h' tk₁ hI2 ⟨c1, c2, c3, c4, cvs, cc, c5, c6⟩ F N
            have c45 : ∀ p ∈ n4, p.1 ≠ De → p ∈ n5 := fun p hp hn => c4 p (b1 p hp hn) (hDc p hp)
            repeat kp_kind "s"
            exact ⟨h', _, _, _, rfl, F, N, c45 _ mI hIe, c45 _ mW (hDe _ mR), by kp_kind "lk", by kp_kind "lk", fun p hp => c45 p (hN4 p hp) (hDe p hp), cols ++ [.ref Dc], nc + 1, c4 _ b2 (Ne.symm hDce), (k5.mono fun p hp hn _ => c45 p hp hn).snoc ⟨Dc, cvs, cc, rfl, hDce, c5, c6⟩⟩
        · rintro I mm2 n4 h' tk₁ hI ⟨k1, k2, k3, cols, nc, k4, k5⟩ F N
          refine wpAny_execs_nil ?_
          repeat kp_kind "s"
          have hcx : ∀ (c : Addr) (q : Obj) v, (c, q) ∈ nw6 → q.data = .cell v → c ∉ y.dxs := fun c q v hm hq hx => by
            obtain ⟨j, hj, e⟩ := List.getElem_of_mem hx
            have hj' : j < y.exs.length := mM6.ld ▸ hj
            have md := (mM6.ex j _ (List.getElem?_eq_getElem hj')).2
            rw [List.getD_eq_getElem?_getD, List.getElem?_eq_getElem hj] at md
            have md : (y.dxs[j], dictOf [] 0) ∈ nw6 := md
            rw [e] at md
            have := News.uniq N (k3 _ (j4.c _ hm)) (k3 _ (j4.c _ md))
            rw [this] at hq
            cases hq
          have okp : Mx.Okp { y with txt := lawT sc } := ⟨wf, sh, ⟨hnE8, mM6.ld, by show (lawT sc).length ≤ 100; omega⟩, mM6.nd, fun x hx => by have := (wds x hx).1; omega⟩
          have hP0 : PAt { y with txt := lawT sc } n4 (fun _ => []) 0 := ⟨fun j r e => (mM6.ex j r e).1.offD fun p hp _ => k3 _ (j4.c _ hp), fun j r e => ⟨[], 0, k3 _ (j4.c _ (mM6.ex j r e).2), .inl ⟨rfl, rfl⟩⟩, fun j ic h => (nomatch h), fun j => Nat.le_refl _⟩
          have hlast : y.exs[y.exs.length - 1]? = some y.exs[y.exs.length - 1] := List.getElem?_eq_getElem (by omega)
          have hdr := hdl.1
          obtain ⟨cvN, hcN, bN, cvs, ccN, rfl, hbNe, mbN, hintN⟩ := k5.2 num (by rw [hrl]; exact hdr)
          refine LCg.ListComp_U F rfl (by decide) rfl (by decide) rfl ?_
          repeat kp_kind "s"
          first | with_reducible refine PyProof.Rows.callWith_type1 ?_ | refine PyProof.Rows.callWith_type1 ?_
          repeat kp_kind "s"
          refine nameX_C (c := s1.heap.objs.size + 1 + 1) N rfl (k3 _ (j4.c _ mc2)) hq3' ?_
          repeat kp_kind "s"
          first | with_reducible refine r_lenS (by rw [S_len]; omega) (fun t5 tkk => ?_) | refine r_lenS (by rw [S_len]; omega) (fun t5 tkk => ?_)
          rw [S_len]
          repeat kp_kind "s"
          first | with_reducible refine r_add (c := (((lawT sc).length + 1 : Nat) : Int)) (by omega) ?_ | refine r_add (c := (((lawT sc).length + 1 : Nat) : Int)) (by omega) ?_
          repeat kp_kind "s"
          refine range1_rows F N (fun h' tk ta tb tc hr F N keepr => ?_)
          refine CompSrc.range rfl F N hr (small1 _ (by omega)).1 (small1 _ (by omega)).2 (by rw [sizeLine_eq]; omega) (fun gg => comp_restJ (n := (lawT sc).length + 1)
            (J := fun i ni => ∃ olds, PAt { y with txt := lawT sc } ni olds i ∧ (176, tabObj #[]) ∈ ni ∧ (De, listOf (List.toArray cols) nc) ∈ ni ∧ (bN, listOf (List.toArray cvs) ccN) ∈ ni ∧ (Dm, listOf (List.toArray (y.ads.map .ref)) cm) ∈ ni ∧ (s1.heap.objs.size + 1 + 1, q3') ∈ ni ∧ (s1.heap.objs.size + 1 + 1 + 1, q2') ∈ ni ∧ (s1.heap.objs.size + 1 + 1 + 1 + 1, q1') ∈ ni)
            (Y := fun i v => ∃ t, v = .int (encE (rs (lawT sc) y.exs (y.exs.length - 1) i)) t) ?_ ?_ _ 0 [] _ (Nat.zero_add _) rfl ⟨_, hP0, k3 _ (j4.c _ mT), k4, mbN, k3 _ (j4.c _ mD6), k3 _ (j4.c _ mc2), k3 _ (j4.c _ mc3), k3 _ (j4.c _ mc4)⟩ (fun j y hj => by simp at hj))
          · rintro i v I oI C oC D ysc m₂ h' tk ni E' hi ⟨tv, rfl⟩ ⟨olds, p1, pT, p2, p3, p4, p5, p6, p7⟩ off e1 e2 e3 hN hx F N
            refine Call_ ?_
            refine name_compK F X (topRead_of T) (by k_is) ?_
            repeat kp_kind "s"
            refine name_compF (c := s1.heap.objs.size + 1 + 1 + 1) N rfl (.tail _ (.tail _ (.tail _ p6))) hq2' ?_
            repeat kp_kind "s"
            refine name_compF (c := s1.heap.objs.size + 1 + 1 + 1 + 1) N rfl (.tail _ (.tail _ (.tail _ p7))) hq1' ?_
            have hai : (y.ads.map Value.ref)[y.exs.length - 1]? = some (.ref (y.ads.getD (y.exs.length - 1) 0)) := by
              rw [List.getElem?_map, List.getD_eq_getElem?_getD, List.getElem?_eq_getElem (by rw [mM6.la]; omega)]; rfl
            first | with_reducible refine r_item N (.tail _ (.tail _ (.tail _ p4))) (by omega) hai ?_ | refine r_item N (.tail _ (.tail _ (.tail _ p4))) (by omega) hai ?_
            repeat kp_kind "s"
            refine name_compF (c := s1.heap.objs.size + 1 + 1) N rfl (.tail _ (.tail _ (.tail _ p5))) hq3' ?_
            repeat kp_kind "s"
            refine name_comp hN (N _ (.tail _ (.head _))).1 hx ?_
            repeat kp_kind "s"
            have hki : (0 + (i : Int)) = nI i := by simp only [nI]; omega
            rw [hki]
            have N0 := N
            have off' := off.mem
            have hdep := law_dep
            refine matched_spec (y := { y with txt := lawT sc }) okp hlast K0 rfl (gd_law X T K0 rfl rfl) F (fun p hp => N p (.tail _ (.tail _ (.tail _ hp)))) (by rw [depth_deeper]; omega) rfl p1 (by omega) (by show i ≤ (lawT sc).length; omega) (fun t6 h' tk n5 olds5 F N hP5 hold hap => ?_)
            have offni : ∀ p ∈ ni, p.1 ≠ I ∧ p.1 ≠ C ∧ p.1 ≠ D := off'
            have aI := hap I oI (N0 _ (.head _)).1 (fun z hz => (off' z hz).1) (N0 _ (.head _)).2.1
            have aC := hap C oC (N0 _ (.tail _ (.head _))).1 (fun z hz => (off' z hz).2.1) (N0 _ (.tail _ (.head _))).2.1
            have aD := hap D (lst ysc) (N0 _ (.tail _ (.tail _ (.head _)))).1 (fun z hz => (off' z hz).2.2) (N0 _ (.tail _ (.tail _ (.head _)))).2.1
            refine ⟨h', _, n5, rfl, F, fun p hp => ?_, Off3.of fun p hp => ⟨aI.2 p hp, aC.2 p hp, aD.2 p hp⟩, ⟨olds5, hP5, hold _ pT (.inl fun q => (nomatch q)), hold _ p2 (.inl fun q => ?_), hold _ p3 (.inl fun q => ?_), hold _ p4 (.inl fun q => ?_), hold _ p5 (.inr (hcx _ _ _ mc2 hq3')), hold _ p6 (.inr (hcx _ _ _ mc3 hq2')), hold _ p7 (.inr (hcx _ _ _ mc4 hq1'))⟩, t6, rfl⟩
            · rcases List.mem_cons.mp hp with rfl | hp
              · exact ⟨aI.1, (N0 _ (.head _)).2⟩
              · rcases List.mem_cons.mp hp with rfl | hp
                · exact ⟨aC.1, (N0 _ (.tail _ (.head _))).2⟩
                · rcases List.mem_cons.mp hp with rfl | hp
                  · exact ⟨aD.1, (N0 _ (.tail _ (.tail _ (.head _)))).2⟩
                  · exact N p hp
            all_goals (have q : Value.type "list" = Value.type "dict" := q; injection q with q; exact absurd q (by decide))
          · rintro ys3 ni hyl3 ⟨olds, p1, pT, p2, p3, p4, p5, p6, p7⟩ hys3 D3 h' tk F N oD
            repeat kp_kind "s"
            first | with_reducible refine r_item N (.tail _ p2) (by have := hdl.1; omega) hcN ?_ | refine r_item N (.tail _ p2) (by have := hdl.1; omega) hcN ?_
            repeat kp_kind "s"
            have hints4 := ints_ofE _ hyl3 hys3
            refine ke_eq_ints (News.isList N (.head _)) (News.isList N (.tail _ p3)) hints4 hintN (by k_units) ?_
            have heq : (List.range ((lawT sc).length + 1)).map (fun i => encE (rs (lawT sc) y.exs (y.exs.length - 1) i)) = (List.range ((lawT sc).length + 1)).map fun p => encE (rs (lawT sc) rows num p) := by
              refine List.map_congr_left fun p _ => ?_
              rw [hdl.2 p, sem_tr wf sh (by omega)]
            rw [decide_eq_true heq]
            repeat kp_kind "s"
            dsimp only
            refine ⟨?_, GrownAt.of N (.tail _ pT), trivial⟩
            kc_close
end Vy
end
theorem PySem.Challenge.cw_vy0011_01_holds : PySem.Challenge.rw_vy0011_01.Holds := by
  exact Vy.law_try
