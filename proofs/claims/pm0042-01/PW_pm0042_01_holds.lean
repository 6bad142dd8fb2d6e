import PyProof.Rows.All
import Wide.All
import OpenK.AllK
import Wide.FinOn
import PySem.Challenge.RW_pm0042_01
open PySem PySem.W PyProof.Rows
set_option Elab.async false
set_option maxRecDepth 100000
set_option maxHeartbeats 8000000
set_option linter.unusedVariables false
set_option compiler.extract_closed false
open_top hd for PySem.Challenge.rw_pm0042_01
namespace Mine
open PySem.Calls PySem.Spec
noncomputable section
/-! the plain law: no program in sight -/
def figs (n : Nat) : List Nat := if n = 0 then [] else figs (n / 64) ++ [n % 64]
decreasing_by omega
theorem figs_zero : figs 0 = [] := by unfold figs; simp
theorem figs_pos {n : Nat} (h : 0 < n) : figs n = figs (n / 64) ++ [n % 64] := by
  rw [figs, if_neg (by omega)]
theorem figs_len : ∀ (k n : Nat), n < 64 ^ k → (figs n).length ≤ k
  | 0, n, h => by
    have : n = 0 := by simpa using h
    subst this; simp [figs_zero]
  | k + 1, n, h => by
    by_cases h0 : n = 0
    · subst h0; simp [figs_zero]
    · rw [figs_pos (by omega), List.length_append, List.length_singleton]
      have : n / 64 < 64 ^ k := by
        rw [Nat.pow_succ] at h
        exact Nat.div_lt_of_lt_mul (by omega)
      have := figs_len k _ this
      omega
theorem figs_lt (n : Nat) : ∀ d ∈ figs n, d < 64 := by
  induction n using Nat.strongRecOn with
  | ind n ih =>
    by_cases h0 : n = 0
    · subst h0; simp [figs_zero]
    · rw [figs_pos (by omega)]
      intro d hd
      rcases List.mem_append.mp hd with hd | hd
      · exact ih _ (by omega) d hd
      · have := List.mem_singleton.mp hd; omega
end
noncomputable section
abbrev sh (s : Shared) (h : Heap) (t : Nat) : Shared := { s with heap := h, toks := t }

structure St (g : Heap) (L : Addr) (m : Str → Option Value) (news : List (Addr × Obj)) (h : Heap) : Prop where
  F : Fr g L h m
  N : News g L h news

def upd (m : Str → Option Value) (x : Str) (v : Value) : Str → Option Value := fun y => if y = x then some v else m y

section
variable {prog : Program} {w : World} {A : Around} {E : Value → Shared → Prop} {s : Shared} {h : Heap} {t : Nat} {g : Heap} {L : Addr} {m : Str → Option Value} {news : List (Addr × Obj)} {env : Env}
  {cn : Str} {cs : Scope} {a : Addr} {ccd : Value} {cl : List (Str × Addr)}

theorem rm0 {a b c k : Nat} (h : a + b < c) (hk : k ≤ b) : a + k < c := Nat.lt_of_le_of_lt (Nat.add_le_add_left hk a) h
theorem rm1 {a b c j k : Nat} (h : a + b < c) (hk : j + k ≤ b) : a + j + k < c := by rw [Nat.add_assoc]; exact rm0 h hk
/-! statements -/
theorem x_nil {M : Model} {Q : Flow → Shared → Prop} (hq : Q .next s) : wpAny M A (execs [] env) Q E s := wpAny_execs_nil hq
theorem x_cons {M : Model} {st : Stmt} {rest : List Stmt} {Q : Flow → Shared → Prop}
    (hq : wpAny M A (exec st env) (fun f s' => match f with | .next => wpAny M A (execs rest env) Q E s' | f => Q f s') E s) : wpAny M A (execs (st :: rest) env) Q E s := wpAny_execs_cons hq
theorem x_assign {M : Model} {x : Str} {px pos : Pos} {e : Expr} {rest : List Stmt} {Q : Flow → Shared → Prop}
    (hs : swapsWith e (some (.Name x px)) pos.line env = pure false)
    (hq : wpAny M A (eval e env) (fun v s₁ => wpAny M A (storeName env x v) (fun _ s₂ => wpAny M A (execs rest env) Q E s₂) E s₁) E s) :
    wpAny M A (execs (.Assign [.Name x px] e pos :: rest) env) Q E s := wpAny_execs_cons (wpAny_Assign_Name hq hs)
theorem x_ret {M : Model} {pos : Pos} {e : Expr} {rest : List Stmt} {Q : Flow → Shared → Prop} (hq : wpAny M A (eval e env) (fun v s' => Q (.ret v) s') E s) :
    wpAny M A (execs (.Return (some e) pos :: rest) env) Q E s := by
  refine wpAny_execs_cons (wpAny_Return_some (wpAny_mono hq (fun v s' q => q) fun _ _ x => x))
theorem execs_append (env : Env) (b : List Stmt) : ∀ a : List Stmt, execs (a ++ b) env = (execs a env).bind fun f => match f with | .next => execs b env | f => .pure f
  | [] => rfl
  | st :: r => by
    show (exec st env).bind _ = ((exec st env).bind _).bind _
    rw [Sem.bind_assoc]
    congr 1
    funext f
    cases f with
    | next => exact execs_append env b r
    | brk => rfl
    | cont => rfl
    | ret v => rfl
theorem x_if {M : Model} {test : Expr} {body orelse : List Stmt} {pos : Pos} {rest : List Stmt} {Q : Flow → Shared → Prop}
    (hq : wpAny M A (isTrue test env (eval test env)) (fun b s₂ => (b = true → wpAny M A (execs (body ++ rest) env) Q E s₂) ∧ (b = false → wpAny M A (execs (orelse ++ rest) env) Q E s₂)) E s) :
    wpAny M A (execs (.If test body orelse pos :: rest) env) Q E s := by
  have e : execs (.If test body orelse pos :: rest) env = (do standAt pos; let b ← isTrue test env (eval test env); if b then execs (body ++ rest) env else execs (orelse ++ rest) env) := by
    rw [execs_cons, exec_If]
    show ((standAt pos).bind fun _ => _).bind _ = (standAt pos).bind fun _ => _
    rw [Sem.bind_assoc]
    congr 1
    funext _
    show ((isTrue test env (eval test env)).bind fun _ => _).bind _ = (isTrue test env (eval test env)).bind fun _ => _
    rw [Sem.bind_assoc]
    congr 1
    funext b
    cases b
    · simp only [Bool.false_eq_true, if_false]; rw [execs_append]; congr 1
    · simp only [if_true]; rw [execs_append]; congr 1
  rw [e]
  refine wpAny_bind (wpAny_standAt (wpAny_bind (wpAny_mono hq (fun b s₂ q => ?_) fun _ _ x => x)))
  cases b
  · exact q.2 rfl
  · exact q.1 rfl
theorem x_app_nil {M : Model} {rest : List Stmt} {Q : Flow → Shared → Prop} (hq : wpAny M A (execs rest env) Q E s) : wpAny M A (execs ([] ++ rest) env) Q E s := hq
theorem x_app_cons {M : Model} {st : Stmt} {r rest : List Stmt} {Q : Flow → Shared → Prop} (hq : wpAny M A (execs (st :: (r ++ rest)) env) Q E s) : wpAny M A (execs ((st :: r) ++ rest) env) Q E s := hq
theorem x_store {M : Model} {x : Str} {v : Value} {Q : Unit → Shared → Prop} (S : St g L m news h)
    (hk : cs.kind = .function) (hx : (envX cn cs L a ccd cl).kindOf x = some .local)
    (hq : ∀ h' t', St g L (upd m x v) news h' → Q () (sh s h' t')) :
    wpAny M A (storeName (envX cn cs L a ccd cl) x v) Q E (sh s h t) :=
  storeX_L (s := sh s h t) S.F S.N (fun h' F' N' => hq h' _ ⟨F', N'⟩) hk hx

/-! expressions -/
theorem e_int {M : Model} {i : Int} {k : Nat} {pos : Pos} {Q : Value → Shared → Prop} (hq : ∀ u t', Q (.int i u) (sh s h t')) : wpAny M A (eval (.Constant (.int i) k pos) env) Q E (sh s h t) :=
  wpAny_Constant_int (s := sh s h t) (hq _ _)
theorem e_str {M : Model} {x : Str} {k : Nat} {pos : Pos} {Q : Value → Shared → Prop} (hq : ∀ u t', Q (.str x u) (sh s h t')) : wpAny M A (eval (.Constant (.str x) k pos) env) Q E (sh s h t) :=
  Constant_str (s := sh s h t) (hq _ _)
theorem e_nameL {M : Model} {x : Str} {pos : Pos} {v : Value} {Q : Value → Shared → Prop} (S : St g L m news h) (hv : m x = some v)
    (hk : cs.kind = .function) (hx : (envX cn cs L a ccd cl).kindOf x = some .local) (hd : (x == ("__debug__" : Str)) = false) (hq : Q v (sh s h t)) :
    wpAny M A (eval (.Name x pos) (envX cn cs L a ccd cl)) Q E (sh s h t) := nameX_L (s := sh s h t) S.F hv hq hk hx hd
theorem e_bin {M : Model} {l r : Expr} {op : Operator} {pos : Pos} {Q : Value → Shared → Prop}
    (hq : wpAny M A (eval l env) (fun a s₁ => wpAny M A (eval r env) (fun b s₂ => wpAny M A (binaryOp op a b) Q E s₂) E s₁) E s) :
    wpAny M A (eval (.BinOp l op r pos) env) Q E s := wpAny_BinOp hq
theorem e_list {M : Model} {elts : List Expr} {pos : Pos} {Q : Value → Shared → Prop}
    (hq : wpAny M A (spliced (backTo pos (starEach elts env))) (fun vs s₁ => wpAny M A (newList vs) Q E s₁) E s) : wpAny M A (eval (.List elts pos) env) Q E s := List_ hq
theorem newList_ {M : Model} {vs : List Value} {Q : Value → Shared → Prop} (S : St g L m news h) (hsz : vs.length ≤ sizeLine)
    (hq : ∀ l h', (∀ p ∈ news, p.1 < l) → St g L m ((l, W.listOf vs.toArray 0) :: news) h' → Q (.ref l) (sh s h' t)) : wpAny M A (newList vs) Q E (sh s h t) :=
  newList_N (s := sh s h t) S.F S.N (fun h' F' N' => hq _ h' (fun p hp => Heap.lt_size (S.N p hp).1) ⟨F', N'⟩) hsz
theorem s_nil {M : Model} {Q : List Value → Shared → Prop} (hq : Q [] s) : wpAny M A (spliced []) Q E s := spliced_nil hq
theorem s_nil' {M : Model} {pos : Pos} {Q : List Value → Shared → Prop} (hq : Q [] s) : wpAny M A (spliced (backTo pos (starEach [] env))) Q E s := spliced_nil hq
theorem s_cons {M : Model} {pos : Pos} {e : Expr} {rest : List Expr} {Q : List Value → Shared → Prop}
    (he : starEach (e :: rest) env = (false, eval e env) :: starEach rest env)
    (hq : wpAny M A (eval e env) (fun v s₁ => wpAny M A (spliced (backTo pos (starEach rest env))) (fun vs s₂ => Q (v :: vs) s₂) E s₁) E s) :
    wpAny M A (spliced (backTo pos (starEach (e :: rest) env))) Q E s := by
  rw [he]; exact spliced_cons hq
theorem t_cmp {M : Model} {l r : Expr} {op : CmpOp} {pos : Pos} {whole : Sem Value} {Q : Bool → Shared → Prop} (hm : behindInMarks op r = false)
    (hq : wpAny M A (eval l env) (fun a s₁ => wpAny M A (eval r env) (fun b s₂ => wpAny M A (compareOp op a b)
      (fun c s₃ => wpAny M A (truthy c) Q E s₃) E s₂) E s₁) E s) : wpAny M A (isTrue (.Compare l [op] [r] pos) env whole) Q E s := wpAny_isTrue_Compare1 hq hm
theorem truthy_b {M : Model} {b : Bool} {Q : Bool → Shared → Prop} (hq : Q b s) : wpAny M A (truthy (.bool b)) Q E s := wpAny_truthy_bool hq

/-! ints -/
variable {i j : Int} {u v : Tok} {Q : Value → Shared → Prop}
theorem o_add (hq : ∀ u t', Q (.int (i + j) u) (sh s h t')) : wpAny (model prog w) A (binaryOp .Add (.int i u) (.int j v)) Q E (sh s h t) := PyProof.Rows.add_int (s := sh s h t) (hq _ _)
theorem o_sub (hq : ∀ u t', Q (.int (i - j) u) (sh s h t')) : wpAny (model prog w) A (binaryOp .Sub (.int i u) (.int j v)) Q E (sh s h t) := PyProof.Rows.sub_int (s := sh s h t) (hq _ _)
theorem o_mod (hb : j ≠ 0) (hq : ∀ u t', Q (.int (i.fmod j) u) (sh s h t')) : wpAny (model prog w) A (binaryOp .Mod (.int i u) (.int j v)) Q E (sh s h t) := PyProof.Rows.mod_int (s := sh s h t) hb (hq _ _)
theorem o_gt (hq : Q (.bool (decide (j < i))) (sh s h t)) : wpAny (model prog w) A (compareOp .Gt (.int i u) (.int j v)) Q E (sh s h t) := PyProof.Rows.gt_int (s := sh s h t) hq

theorem St.push {o : Obj} (S : St g L m news h) (hf : o.isFreed = false) : St g L m ((h.objs.size, o) :: news) (h.push o) := ⟨S.F.push o, S.N.push S.F o hf⟩
theorem St.sub {news' : List (Addr × Obj)} (S : St g L m news h) (hs : ∀ p ∈ news', p ∈ news) : St g L m news' h := ⟨S.F, fun p hp => S.N p (hs p hp)⟩
theorem St.lt (S : St g L m news h) : ∀ p ∈ news, p.1 < h.objs.size := fun p hp => Heap.lt_size (S.N p hp).1
theorem St.Llt (S : St g L m news h) : L < h.objs.size := S.F.ns.lt
/-- all of what the state knows stands on, where one new address turns -/
theorem St.off {I : Addr} {h' : Heap} (S : St g L m news h) (hI : I ≠ L) (hg : g.get? I = none) (hn : ∀ p ∈ news, p.1 ≠ I) (hk : ∀ b o, b ≠ I → h.get? b = some o → h'.get? b = some o) : St g L m news h' :=
  ⟨⟨S.F.ns.at' fun o e => hk L o (Ne.symm hI) e, fun b o e => hk b o (fun q => by rw [q, hg] at e; cases e) (S.F.keep b o e), S.F.above⟩, fun p hp => ⟨hk _ _ (hn p hp) (S.N p hp).1, (S.N p hp).2⟩⟩
theorem St.keeps {h' : Heap} (S : St g L m news h) (hk : ∀ b o, h.get? b = some o → h'.get? b = some o) : St g L m news h' :=
  ⟨⟨S.F.ns.at' fun o e => hk L o e, fun b o e => hk b o (S.F.keep b o e), S.F.above⟩, fun p hp => ⟨hk _ _ (S.N p hp).1, (S.N p hp).2⟩⟩
theorem St.isList {l : Addr} {vs : Array Value} {n : Nat} (S : St g L m news h) (hm : (l, W.listOf vs n) ∈ news) : h.IsList l vs := ⟨_, (S.N _ hm).1, rfl, n, rfl⟩
theorem St.freshAt {I : Addr} (S : St g L m news h) (hI : h.objs.size ≤ I) : g.get? I = none := by
  cases q : g.get? I with
  | none => rfl
  | some o => exact absurd (Heap.lt_size (S.F.keep _ _ q)) (Nat.not_lt.mpr hI)

/-! calls of the text's defs -/
def Lv (g₀ : Heap) (L₀ : Addr) (m₀ : Str → Option Value) (g : Heap) (Q : Value → Shared → Prop) (f : Flow) (s' : Shared) : Prop :=
  ∃ L' m' news', St g L' m' news' s'.heap ∧ (St g₀ L₀ m₀ news' s'.heap → Q (match f with | .ret v => v | _ => .none) s')
theorem leave_r {g₀ : Heap} {L₀ : Addr} {m₀ : Str → Option Value} {Q : Value → Shared → Prop} {v : Value} (S : St g L m news h) (k : St g₀ L₀ m₀ news h → Q v (sh s h t)) : Lv g₀ L₀ m₀ g Q (.ret v) (sh s h t) := ⟨L, m, news, S, k⟩
theorem leave_n {g₀ : Heap} {L₀ : Addr} {m₀ : Str → Option Value} {Q : Value → Shared → Prop} (S : St g L m news h) (k : St g₀ L₀ m₀ news h → Q .none (sh s h t)) : Lv g₀ L₀ m₀ g Q .next (sh s h t) := ⟨L, m, news, S, k⟩
def Ex (M : Model) (A : Around) (env : Env) (E : Value → Shared → Prop) (e : Value) (s' : Shared) : Prop := wpAny M A (leaving env e) (fun _ s'' => E e s'') (fun e' s'' => E e' s'') s'

abbrev lk (l : List (Str × Value)) : Str → Option Value := fun y => l.reverse.lookup y
structure Cx (w : World) (p : Program) (loose : List Str) (mean : ExcName → Option Value) (mg mb : Str → Option Value) (cs : Scope) (outer : List Env) (A₀ : Around) (base g : Heap) : Prop where
  B : Below A₀ base outer g
  X : (hd.heap_39 w.params).In g
  T : Top p loose mean mg mb g
  hk : cs.kind = .function
section
variable {dp un : Nat} {gd : Option (List Code)} {outer : List Env} {A₀ : Around} {base : Heap} {p : Program} {loose : List Str} {mean : ExcName → Option Value} {mg mb : Str → Option Value}
  {name qual : Str} {params : Arguments} {body : List Stmt} {scope : Scope} {dV kV doc pm cdv ct oc : Value} {an od : Option Addr} {osl : Array (Option Value)} {f : Addr} {pos : List Value} {kw : List (Str × Value)} {Q : Value → Shared → Prop}
theorem call_fn (binds : List (Str × Value)) (C : Cx w p loose mean mg mb cs outer A₀ base g) (S : St g L m news h)
    (ho : (hd.heap_39 w.params).lookup f = some ⟨oc, od, .func (fnOf name qual params body scope dV kV doc pm an cdv ct), osl⟩) (hcd : codeIn (hd.heap_39 w.params) cdv qual = true) (hroom : dp < recursionLimit)
    (hbind : BindsTo (sh s h t) (fnOf name qual params body scope dV kV doc pm an cdv ct) ⟨pos, kw⟩ binds) (hloc : ∀ y ∈ binds, scope.names.lookup y.1 = some .local)
    (hco : scope.isCoroutine = false) (hgen : scope.isGenerator = false) (hkf : scope.kind = .function) (hcell : ∀ x ∈ scope.names, x.2 ≠ .cell)
    (hq : ∀ g' L' h' t', St g' L' (lk binds) news h' → Cx w p loose mean mg mb scope (envX cn cs L a ccd cl :: outer) (ktrTop dp un gd cn cs L a ccd cl outer) base g' → (∀ p ∈ news, p.1 < L') → GSub h g' (news.map (·.1)) →
      wpAny (model prog w) (ktrTop (dp + 1) (un + 3) gd qual scope L' f cdv [] (envX cn cs L a ccd cl :: outer)) (execs body (envX qual scope L' f cdv []))
        (Lv g L m g' Q) (fun e s' => wpAny (model prog w) (ktrTop (dp + 1) (un + 3) gd qual scope L' f cdv [] (envX cn cs L a ccd cl :: outer)) (leaving (envX qual scope L' f cdv []) e) (fun _ s'' => E e s'') (fun e' s'' => E e' s'') s') (sh s h' t')) :
    wpAny (model prog w) (ktrTop dp un gd cn cs L a ccd cl outer) (call (.ref f) pos kw) Q E (sh s h t) := by
  have X' := C.X.keeps S.F.keep
  refine wpAny_call ?_
  obtain ⟨FG, BG, st, lv⟩ := groundX (s := sh s h t) (A := ktrTop dp un gd cn cs L a ccd cl outer) (env := envX cn cs L a ccd cl) (R := fun r s' => match r with | .ok (.ret v) => Q v s' | .ok _ => False | .error e => E e s') C.B S.F S.N rfl rfl C.hk
  refine codeAny_call_def (fd := fnX name qual params body scope [] dV kV doc pm an cdv ct) (body := body) (binds := binds) hroom (X' _ _ ho) rfl (C.T.nolimit.keeps S.F.keep) (codeRec_of X' hcd) rfl hbind hcell hloc (fun h₁ hns hk₁ => ?_) hco hgen hkf
  refine wpAny_mono (hq _ h.objs.size h₁ _ ⟨⟨hns, fun b o e => hk₁ b o (of_hideAll _ e), Nat.le_of_eq (hideAll_size _ _)⟩, fun p hp => ⟨hk₁ _ _ (S.N p hp).1, Nat.ne_of_lt (Heap.lt_size (S.N p hp).1), hideAll_none _ (List.mem_map_of_mem hp)⟩⟩
    ⟨BG, C.X.keeps st, C.T.keeps st, hkf⟩ S.lt (fun b o e n => hideAll_get _ e n)) (fun fl s' q => ?_) fun _ _ x => x
  obtain ⟨L₂, m₂, news₂, S₂, k⟩ := q
  exact lv _ _ ⟨L₂, m₂, news₂, S₂.F, S₂.N, fun F₃ N₃ => k ⟨F₃, N₃⟩⟩
end
theorem keep_of {h' g' : Heap} {L' : Addr} {m' : Str → Option Value} {news' : List (Addr × Obj)} (S : St g L m news h) (G : GSub h g' (news.map (·.1))) (S' : St g' L' m' news' h') (hs : ∀ p ∈ news, p ∈ news') : ∀ b o, h.get? b = some o → h'.get? b = some o := fun b o e => by
  by_cases hb : b ∈ news.map (·.1)
  · obtain ⟨p, hp, rfl⟩ := List.mem_map.mp hb
    have h1 := (S.N p hp).1
    rw [e] at h1
    cases h1
    exact (S'.N p (hs p hp)).1
  · exact S'.F.keep b o (G b o e hb)

/-- what a def of the text yields, where it turns nothing that stood -/
def Fn (w : World) (k : Nat) (f : Addr) (args : List Value) (kw : List (Str × Value)) (news : List (Addr × Obj)) (post : Value → List (Addr × Obj) → Prop) : Prop :=
  ∀ {p : Program} {loose : List Str} {mean : ExcName → Option Value} {mg mb : Str → Option Value} {dp un : Nat} {gd : Option (List Code)} {cn : Str} {cs : Scope} {L a : Addr} {ccd : Value} {cl : List (Str × Addr)} {outer : List Env} {A₀ : Around} {base g : Heap} {m : Str → Option Value} {s : Shared} {h : Heap} {t : Nat} {Q E : Value → Shared → Prop},
    Cx w p loose mean mg mb cs outer A₀ base g → St g L m news h → dp + k < recursionLimit → un + 4 * k < cLine →
    (∀ v tl h' t', St g L m (tl ++ news) h' → (∀ b o, h.get? b = some o → h'.get? b = some o) → (∀ q ∈ news, ∀ p ∈ tl, q.1 ≠ p.1) → post v tl → Q v (sh s h' t')) →
    wpAny (model PySem.Challenge.rw_pm0042_01.row.prog w) (ktrTop dp un gd cn cs L a ccd cl outer) (call (.ref f) args kw) Q E (sh s h t)

/-! loops -/
section
variable {m₀ : Str → Option Value}
theorem x_while {test : Expr} {body rest : List Stmt} {pos : Pos} {Q : Flow → Shared → Prop} (J : Nat → (Str → Option Value) → List (Addr × Obj) → Prop) (n₀ : Nat) (S : St g L m news h) (h0 : J n₀ m news)
    (turn : ∀ n m₁ news₁ h₁ t₁, St g L m₁ news₁ h₁ → J n m₁ news₁ → wpAny (model prog w) A (isTrue test env (eval test env)) (fun b s₂ =>
      (b = true → wpAny (model prog w) A (execs body env) (fun f s₃ => f = .next ∧ ∃ h' t' m₂ news₂ n', s₃ = sh s h' t' ∧ St g L m₂ news₂ h' ∧ n' < n ∧ J n' m₂ news₂) E s₂) ∧
      (b = false → wpAny (model prog w) A (execs rest env) Q E s₂)) E (sh s h₁ t₁))
    (hE : PassesOwn (model prog w) A env E) : wpAny (model prog w) A (execs (.While test body [] pos :: rest) env) Q E (sh s h t) := by
  refine wpAny_execs_cons (While_inv2 (h₀ := g) (L := L) J (n₀ := n₀) S.F S.N h0 (fun n m₁ news₁ h₁ t₁ F₁ N₁ J₁ => ?_) hE)
  refine wpAny_mono (turn n m₁ news₁ h₁ t₁ ⟨F₁, N₁⟩ J₁) (fun b s₂ q => ?_) fun _ _ x => x
  cases b
  · simp only [Bool.false_eq_true, if_false]; exact q.2 rfl
  · simp only [if_true]
    refine wpAny_mono (q.1 rfl) (fun f s₃ q => ?_) fun _ _ x => x
    obtain ⟨rfl, h', t', m₂, news₂, n', rfl, S₂, hn, J₂⟩ := q
    exact ⟨h', t', m₂, news₂, n', rfl, S₂.F, S₂.N, hn, J₂⟩

def ForAt (M : Model) (A : Around) (env : Env) (target : Expr) (body rest : List Stmt) (Q : Flow → Shared → Prop) (E : Value → Shared → Prop) (it : Value) (s₂ : Shared) : Prop :=
  codeAny M A (.forLoop target it body [] env) (fun r s' => match r with | .ok .next => wpAny M A (execs rest env) Q E s' | .ok f => Q f s' | .error e => cameBackBy M A env E e s') s₂
theorem x_for {target iter : Expr} {body rest : List Stmt} {pos : Pos} {Q : Flow → Shared → Prop}
    (hs : ∀ x, foldedSetIterable iter env x = pure x)
    (hq : wpAny (model prog w) A (eval iter env) (fun xv s₁ => wpAny (model prog w) A (pyIter xv) (ForAt (model prog w) A env target body rest Q E) E s₁) E s) :
    wpAny (model prog w) A (execs (.For target iter body [] pos :: rest) env) Q E s := by
  refine wpAny_execs_cons (wpAny_For (wpAny_mono hq (fun xv s₁ h₁ => wpAny_mono h₁ (fun it s₂ h₂ => ?_) fun _ _ e => e) fun _ _ e => e) hs)
  refine codeAny_mono h₂ (fun r s' q => ?_)
  cases r with
  | error e => exact q
  | ok f => cases f <;> exact q

def TurnEnd (s : Shared) (g : Heap) (L I : Addr) (it : Addr × Obj) (J : (Str → Option Value) → List (Addr × Obj) → Prop) (Q : Flow → Shared → Prop) (f : Flow) (s₃ : Shared) : Prop :=
  (f = .next ∧ ∃ h' t' m₂ news₂ all, s₃ = sh s h' t' ∧ St g L m₂ all h' ∧ it ∈ all ∧ (∀ p ∈ news₂, p ∈ all) ∧ (∀ p ∈ news₂, p.1 ≠ I) ∧ J m₂ news₂) ∨ ∃ v, f = .ret v ∧ Q (.ret v) s₃
theorem turn_next {I : Addr} {it : Addr × Obj} {J : (Str → Option Value) → List (Addr × Obj) → Prop} {Q : Flow → Shared → Prop} (news₂ : List (Addr × Obj)) (S : St g L m news h) (hi : it ∈ news) (hs : ∀ p ∈ news₂, p ∈ news) (ho : ∀ p ∈ news₂, p.1 ≠ I) (hJ : J m news₂) :
    TurnEnd s g L I it J Q .next (sh s h t) := .inl ⟨rfl, h, t, m, news₂, news, rfl, S, hi, hs, ho, hJ⟩
theorem turn_ret {I : Addr} {it : Addr × Obj} {J : (Str → Option Value) → List (Addr × Obj) → Prop} {Q : Flow → Shared → Prop} {v : Value} {s₃ : Shared} (hq : Q (.ret v) s₃) : TurnEnd s g L I it J Q (.ret v) s₃ := .inr ⟨v, rfl, hq⟩

theorem for_listI {target : Expr} {body rest : List Stmt} {l : Addr} {vs : Array Value} {Q : Flow → Shared → Prop} (hh : A.handled = none) (hL : env.locals = L)
    (htgt : ∀ (it : Addr) (i : Nat) (v : Value) (s' : Shared) (Q' : Unit → Shared → Prop) (E' : Value → Shared → Prop), s'.heap.IsListIter it l i → vs[i - 1]? = some v → Q' () s' → wpAny (model prog w) A (letOwnedTupleGo target (.ref it) v) Q' E' s')
    (S : St g L m news h) (J : Nat → (Str → Option Value) → List (Addr × Obj) → Prop) (h0 : J 0 m news)
    (hl : ∀ i m₁ news₁ h₁, J i m₁ news₁ → St g L m₁ news₁ h₁ → h₁.IsList l vs)
    (turn : ∀ i v m₁ news₁ h₁ t₁ I oI, vs[i]? = some v → J i m₁ news₁ → (∀ p ∈ news₁, p.1 ≠ I) → oI.cls = .type "list_iterator" → St g L m₁ ((I, oI) :: news₁) h₁ →
      wpAny (model prog w) A (assign target env v) (fun _ s₂ => wpAny (model prog w) A (execs body env) (TurnEnd s g L I (I, oI) (J (i + 1)) Q) E s₂) E (sh s h₁ t₁))
    (done : ∀ m₁ news₁ h₁ t₁, J vs.size m₁ news₁ → St g L m₁ news₁ h₁ → wpAny (model prog w) A (execs rest env) Q E (sh s h₁ t₁))
    (hE : PassesOwn (model prog w) A env E) :
    wpAny (model prog w) A (pyIter (.ref l)) (ForAt (model prog w) A env target body rest Q E) E (sh s h t) := by
  subst hL
  refine wpAny_pyIter_list (s := sh s h t) (hl 0 m news h h0 S) ?_
  have hIL : h.objs.size ≠ env.locals := Ne.symm (Nat.ne_of_lt S.Llt)
  have hIg : g.get? h.objs.size = none := S.freshAt (Nat.le_refl _)
  have hIn : ∀ p ∈ news, p.1 ≠ h.objs.size := fun p hp => Nat.ne_of_lt (S.lt p hp)
  have S₀ : St g env.locals m news (h.push { cls := .type "list_iterator", data := .fields #[.ref l, .int 0 0] }) := (S.push (o := { cls := .type "list_iterator", data := .fields #[.ref l, .int 0 0] }) rfl).sub fun p hp => .tail _ hp
  refine codeAny_forLoop_any
    (fun k s' => ∃ h' t' m' news' i, s' = sh s h' t' ∧ h'.IsListIter h.objs.size l i ∧ St g env.locals m' news' h' ∧ (∀ p ∈ news', p.1 ≠ h.objs.size) ∧ J i m' news' ∧ i ≤ vs.size ∧ k = vs.size + 1 - i) ?_ (vs.size + 1)
    ⟨_, t, m, news, 0, rfl, ⟨_, Heap.get?_push_size _ rfl, rfl, rfl⟩, S₀, hIn, h0, Nat.zero_le _, rfl⟩
  rintro k s' ⟨h', t', m', news', i, rfl, hit, S', hn', hJ, hi, rfl⟩
  have hl' := hl i m' news' h' hJ S'
  cases hv : vs[i]? with
  | none =>
    have hsz : i = vs.size := Nat.le_antisymm hi (by simpa using hv)
    subst hsz
    refine wpAny_pyNext_list_end (s := sh s h' t') hh hit hl' hv fun h₁ he₁ => wpAny_execs_nil ?_
    exact done m' news' h₁ t' hJ (S'.off hIL hIg hn' fun b o hb e => he₁ b o hb e)
  | some v =>
    have hlt : i < vs.size := (Array.getElem?_eq_some_iff.mp hv).1
    refine wpAny_pyNext_list_item (s := sh s h' t') hit hl' hv fun h₁ hit₁ hs₁ => ?_
    have S₁ := S'.off (h' := h₁) hIL hIg hn' fun b o hb e => (hs₁.2 b hb).trans e
    obtain ⟨oI, hoI, hcI, hdI⟩ := id hit₁
    have S₂ : St g env.locals m' ((h.objs.size, oI) :: news') h₁ := ⟨S₁.F, fun p hp => by
      rcases List.mem_cons.mp hp with rfl | hp
      · exact ⟨hoI, hIL, hIg⟩
      · exact S₁.N p hp⟩
    refine htgt _ (i + 1) v _ _ _ hit₁ hv ?_
    refine wpAny_passesOwn hE (wpAny_mono (turn i v m' news' h₁ t' h.objs.size oI hv hJ hn' hcI S₂) (fun _ s₂ h₂ => wpAny_passesOwn hE (wpAny_mono h₂ (fun f s₃ h₃ => ?_) fun _ _ e => e)) fun _ _ e => e)
    rcases h₃ with ⟨rfl, h₃', t₃, m₂, news₂, all, rfl, S₃, hia, hsa, hoa, hJ₃⟩ | ⟨v, rfl, hq⟩
    · refine ⟨vs.size + 1 - (i + 1), by omega, h₃', t₃, m₂, news₂, i + 1, rfl, ?_, S₃.sub hsa, hoa, hJ₃, hlt, rfl⟩
      exact ⟨oI, (S₃.N _ hia).1, hcI, hdI⟩
    · exact hq
theorem for_list {target : Expr} {body rest : List Stmt} {l : Addr} {vs : Array Value} {Q : Flow → Shared → Prop} (hh : A.handled = none) (hL : env.locals = L)
    (htgt : ∀ (it : Addr) (i : Nat) (v : Value) (s' : Shared) (Q' : Unit → Shared → Prop) (E' : Value → Shared → Prop), s'.heap.IsListIter it l i → vs[i - 1]? = some v → Q' () s' → wpAny (model prog w) A (letOwnedTupleGo target (.ref it) v) Q' E' s')
    (S : St g L m news h) (J : Nat → (Str → Option Value) → List (Addr × Obj) → Prop) (h0 : J 0 m news)
    (hl : ∀ i m₁ news₁ h₁, J i m₁ news₁ → St g L m₁ news₁ h₁ → h₁.IsList l vs)
    (turn : ∀ i v m₁ news₁ h₁ t₁ I oI, vs[i]? = some v → J i m₁ news₁ → (∀ p ∈ news₁, p.1 ≠ I) → St g L m₁ ((I, oI) :: news₁) h₁ →
      wpAny (model prog w) A (assign target env v) (fun _ s₂ => wpAny (model prog w) A (execs body env) (TurnEnd s g L I (I, oI) (J (i + 1)) Q) E s₂) E (sh s h₁ t₁))
    (done : ∀ m₁ news₁ h₁ t₁, J vs.size m₁ news₁ → St g L m₁ news₁ h₁ → wpAny (model prog w) A (execs rest env) Q E (sh s h₁ t₁))
    (hE : PassesOwn (model prog w) A env E) :
    wpAny (model prog w) A (pyIter (.ref l)) (ForAt (model prog w) A env target body rest Q E) E (sh s h t) :=
  for_listI hh hL htgt S J h0 hl (fun i v m₁ news₁ h₁ t₁ I oI hv hJ hI _ => turn i v m₁ news₁ h₁ t₁ I oI hv hJ hI) done hE
end

theorem o_fdiv {i j : Int} {u v : Tok} {Q : Value → Shared → Prop} (hj : j ≠ 0) (hsm : Builtin.divisionGoesByPylong i j = false ∨ PySem.PylongRoom (model prog w) A (sh s h t)) (hq : ∀ u t', Q (.int (i.fdiv j) u) (sh s h t')) : wpAny (model prog w) A (binaryOp .FloorDiv (.int i u) (.int j v)) Q E (sh s h t) :=
  PyProof.Rows.floordiv_int (s := sh s h t) hj (hq _ _) hsm
theorem o_addL {l b : Addr} {its its2 : Array Value} {c d : Nat} {Q : Value → Shared → Prop} (S : St g L m news h) (hl : (l, W.listOf its c) ∈ news) (hb : (b, W.listOf its2 d) ∈ news) (hsz : its.size + its2.size ≤ sizeLine)
    (hq : ∀ a h', (∀ p ∈ news, p.1 < a) → St g L m ((a, W.listOf (its.toList ++ its2.toList).toArray 0) :: news) h' → Q (.ref a) (sh s h' t)) : wpAny (model prog w) A (binaryOp .Add (.ref l) (.ref b)) Q E (sh s h t) :=
  add_arrays (s := sh s h t) S.F S.N (S.isList hl) (S.isList hb) (fun h' F' N' => hq _ h' S.lt ⟨F', N'⟩) hsz

abbrev iz (ns : List Nat) : List Int := ns.map Int.ofNat
theorem iz_append (a b : List Nat) : iz (a ++ b) = iz a ++ iz b := List.map_append
theorem iz_length (a : List Nat) : (iz a).length = a.length := List.length_map _
theorem IntsAre.sizeA {vs : Array Value} {ns : List Nat} (hi : IntsAre vs.toList (iz ns)) : vs.size = ns.length := by
  have := IntsAre.length hi
  rwa [Array.length_toList, iz_length] at this

theorem fdivN (a b : Nat) : Int.fdiv (a : Int) (b : Int) = ((a / b : Nat) : Int) := by
  rw [Int.fdiv_eq_ediv_of_nonneg _ (Int.natCast_nonneg b)]; rfl
theorem fmodN (a b : Nat) : Int.fmod (a : Int) (b : Int) = ((a % b : Nat) : Int) := by
  rw [Int.fmod_eq_emod_of_nonneg _ (Int.natCast_nonneg b)]; rfl

/-! comprehensions over a list -/
def CompAt (prog : Program) (w : World) (A : Around) (env : Env) (scope : Scope) (cl : List (Str × Addr)) (x : Str) (ifs : List Expr) (elt : Expr) (p : Value → Bool) (F : Value → Value → Prop) (Q : Value → Shared → Prop) (it : Value) (s₂ : Shared) : Prop :=
  ∃ I fp wr n P St, it = .ref I ∧ Walks prog w A I fp wr n P St ∧ n ≤ sizeLine ∧ St 0 s₂.heap ∧ (∀ b ∈ fp, b < s₂.heap.objs.size) ∧
      QuietOnC prog w A env scope cl x ifs elt wr P p F s₂ ∧
      (∀ D h' tk ys (vs : List Value), s₂.heap.get? D = none → h'.IsList D ys → h'.PlainList D ys → vs.length = n → (∀ j v, vs[j]? = some v → P j v) → Paired F (vs.filter p) ys.toList →
        (∀ b o, b ∉ wr → s₂.heap.get? b = some o → h'.get? b = some o) → Q (.ref D) { s₂ with heap := h', toks := tk })
theorem e_comp {elt iter : Expr} {x : Str} {px : Pos} {ifs : List Expr} {scope : Scope} {cl : List (Str × Addr)} {pos : Pos} {Q : Value → Shared → Prop} (p : Value → Bool) (F : Value → Value → Prop)
    (hclos : closureFor scope env = pure cl) (hcell : ∀ y ∈ scope.names, y.2 ≠ .cell) (hkind : scope.kind = .function)
    (hnames : ∀ y ∈ scope.names, y.2 = .local → scope.names.lookup y.1 = some .local) (hx : scope.names.lookup x = some .local) (hs : ∀ x, foldedSetIterable iter env x = pure x)
    (hq : wpAny (model prog w) A (eval iter env) (fun xv s₁ => wpAny (model prog w) A (pyIter xv) (CompAt prog w A env scope cl x ifs elt p F Q) E s₁) E s) :
    wpAny (model prog w) A (eval (.ListComp elt [⟨.Name x px, iter, ifs, 0⟩] scope pos) env) Q E s := wpAny_ListComp_free p F hclos hcell hkind hnames hx hq hs
theorem x_assignComp {elt iter : Expr} {x y : Str} {px py : Pos} {ifs : List Expr} {scope : Scope} {cl : List (Str × Addr)} {pos spos : Pos} {rest : List Stmt} {Q : Flow → Shared → Prop} (p : Value → Bool) (F : Value → Value → Prop)
    (hsw : swapsWith (.ListComp elt [⟨.Name x px, iter, ifs, 0⟩] scope pos) (some (.Name y py)) spos.line env = pure true)
    (hclos : closureFor scope env = pure cl) (hcell : ∀ z ∈ scope.names, z.2 ≠ .cell) (hkind : scope.kind = .function)
    (hnames : ∀ z ∈ scope.names, z.2 = .local → scope.names.lookup z.1 = some .local) (hx : scope.names.lookup x = some .local)
    (hy : env.kindOf y = some .local) (hp : (env.scope.kind == .class || (env.scope.kind == .module && env.locals != env.globals)) = false) (hs : ∀ x, foldedSetIterable iter env x = pure x)
    (hq : wpAny (model prog w) A (eval iter env) (fun xv s₁ => wpAny (model prog w) A (pyIter xv) (fun it s₂ => ∃ I fp wr n P St m, it = .ref I ∧ Walks prog w A I fp wr n P St ∧ n ≤ sizeLine ∧ St 0 s₂.heap ∧ (∀ b ∈ fp, b < s₂.heap.objs.size) ∧
      env.locals ∉ wr ∧ s₂.heap.Ns env.locals m ∧ QuietOnC prog w A env scope cl x ifs elt wr P p F s₂ ∧
      (∀ D h' tk ys (vs : List Value), s₂.heap.get? D = none → h'.IsList D ys → h'.PlainList D ys → vs.length = n → (∀ j v, vs[j]? = some v → P j v) → Paired F (vs.filter p) ys.toList →
        h'.Ns env.locals (fun z => if z = y then some (.ref D) else m z) → (∀ b o, b ≠ env.locals → b ∉ wr → s₂.heap.get? b = some o → h'.get? b = some o) → wpAny (model prog w) A (execs rest env) Q E { s₂ with heap := h', toks := tk })) E s₁) E s) :
    wpAny (model prog w) A (execs (.Assign [.Name y py] (.ListComp elt [⟨.Name x px, iter, ifs, 0⟩] scope pos) spos :: rest) env) Q E s :=
  wpAny_execs_cons (wpAny_Assign_ListComp_free p F hsw hclos hcell hkind hnames hx hy hp hq hs)

abbrev testsOf (ifs : List Expr) (env : Env) : Sem Bool := forIn ifs true fun c r => if r = true then do let ok ← isTrue c env (eval c env); pure (ForInStep.yield ok) else pure (ForInStep.yield r)
theorem quiet_list {elt : Expr} {x : Str} {ifs : List Expr} {scope : Scope} {cl' : List (Str × Addr)} {I : Addr} {vs : Array Value} {p : Value → Bool} {F : Value → Value → Prop} {h₂ : Heap} {t₂ : Nat}
    (hI : I ≠ L) (hIg : g.get? I = none) (hIn : ∀ p ∈ news, p.1 ≠ I) (S : St g L m news h₂)
    (tests : ∀ (C : Addr) (i : Nat) (v : Value) (s' : Shared) (h₁ : Heap) (t₁ : Nat) (mC : Str → Option Value) (E' : Value → Shared → Prop), vs[i]? = some v → h₂.objs.size ≤ C → St g L m news h₁ → h₁.Ns C mC → mC x = some v → wpAny (model prog w) A (testsOf ifs (compEnvC scope cl' C env)) (fun ok s₄ => ok = p v ∧ Keeps (sh s' h₁ t₁) s₄) E' (sh s' h₁ t₁))
    (elts : ∀ (C : Addr) (i : Nat) (v : Value) (s' : Shared) (h₁ : Heap) (t₁ : Nat) (mC : Str → Option Value) (E' : Value → Shared → Prop), vs[i]? = some v → h₂.objs.size ≤ C → p v = true → St g L m news h₁ → h₁.Ns C mC → mC x = some v → wpAny (model prog w) A (eval elt (compEnvC scope cl' C env)) (fun y s₄ => F v y ∧ Keeps (sh s' h₁ t₁) s₄) E' (sh s' h₁ t₁)) :
    QuietOnC prog w A env scope cl' x ifs elt [I] (fun i v => vs[i]? = some v) p F (sh s h₂ t₂) where
  tests := fun C i v s₃ m₃ E' hC hP hn hm hk _ => tests C i v s₃ s₃.heap s₃.toks m₃ E' hP hC (S.off hI hIg hIn fun b o hb e => hk b o (by simpa using hb) e) hn hm
  elt := fun C i v s₃ m₃ E' hC hP hp hn hm hk _ => elts C i v s₃ s₃.heap s₃.toks m₃ E' hP hC hp (S.off hI hIg hIn fun b o hb e => hk b o (by simpa using hb) e) hn hm

theorem comp_list {elt : Expr} {x : Str} {ifs : List Expr} {scope : Scope} {cl' : List (Str × Addr)} {l : Addr} {vs : Array Value} {p : Value → Bool} {F : Value → Value → Prop} {Q : Value → Shared → Prop} (hh : A.handled = none)
    (S : St g L m news h) (hl : h.IsList l vs) (hsz : vs.size ≤ sizeLine)
    (tests : ∀ (C : Addr) (i : Nat) (v : Value) (s' : Shared) (h₁ : Heap) (t₁ : Nat) (mC : Str → Option Value) (E' : Value → Shared → Prop), vs[i]? = some v → St g L m news h₁ → h₁.Ns C mC → mC x = some v → wpAny (model prog w) A (testsOf ifs (compEnvC scope cl' C env)) (fun ok s₄ => ok = p v ∧ Keeps (sh s' h₁ t₁) s₄) E' (sh s' h₁ t₁))
    (elts : ∀ (C : Addr) (i : Nat) (v : Value) (s' : Shared) (h₁ : Heap) (t₁ : Nat) (mC : Str → Option Value) (E' : Value → Shared → Prop), vs[i]? = some v → p v = true → St g L m news h₁ → h₁.Ns C mC → mC x = some v → wpAny (model prog w) A (eval elt (compEnvC scope cl' C env)) (fun y s₄ => F v y ∧ Keeps (sh s' h₁ t₁) s₄) E' (sh s' h₁ t₁))
    (hq : ∀ D h' t' ys n, St g L m ((D, W.listOf ys n) :: news) h' → (∀ p ∈ news, p.1 ≠ D) → (∀ b o, h.get? b = some o → h'.get? b = some o) → Paired F (vs.toList.filter p) ys.toList → Q (.ref D) (sh s h' t')) :
    wpAny (model prog w) A (pyIter (.ref l)) (CompAt prog w A env scope cl' x ifs elt p F Q) E (sh s h t) := by
  refine wpAny_pyIter_list (s := sh s h t) hl ?_
  have hIL : h.objs.size ≠ L := Ne.symm (Nat.ne_of_lt S.Llt)
  have hIg : g.get? h.objs.size = none := S.freshAt (Nat.le_refl _)
  have hIn : ∀ p ∈ news, p.1 ≠ h.objs.size := fun p hp => Nat.ne_of_lt (S.lt p hp)
  have S₀ : St g L m news (h.push { cls := .type "list_iterator", data := .fields #[.ref l, .int 0 0] }) := (S.push (o := { cls := .type "list_iterator", data := .fields #[.ref l, .int 0 0] }) rfl).sub fun p hp => .tail _ hp
  obtain ⟨ol, hol, hcl, nl, hdl⟩ := id hl
  have hlt : l < h.objs.size := Heap.lt_size hol
  refine ⟨h.objs.size, [h.objs.size, l], [h.objs.size], vs.size, _, _, rfl, Walks.list hh h.objs.size l (Nat.ne_of_lt hlt) vs, hsz, ⟨⟨_, Heap.get?_push_size _ rfl, rfl, rfl⟩, ⟨ol, Heap.get?_push_of_some _ hol, hcl, nl, hdl⟩⟩, ?_,
    quiet_list (t₂ := t) hIL hIg hIn S₀ (fun C i v s' h₁ t₁ mC E' a _ => tests C i v s' h₁ t₁ mC E' a) (fun C i v s' h₁ t₁ mC E' a _ => elts C i v s' h₁ t₁ mC E' a), ?_⟩
  · intro b hb
    show b < (h.push _).objs.size
    rw [Heap.size_push]
    rcases List.mem_cons.mp hb with rfl | hb
    · exact Nat.lt_succ_self _
    · exact Nat.lt_succ_of_lt (List.mem_singleton.mp hb ▸ hlt)
  · intro D h' tk ys us hD hL' hpl hlen hP hF hk
    obtain ⟨n, hDn⟩ := hpl
    have hus : us = vs.toList := by
      refine List.ext_getElem? fun j => ?_
      cases e : us[j]? with
      | some v => rw [Array.getElem?_toList, hP j v e]
      | none =>
        have : us.length ≤ j := by simpa using e
        rw [List.getElem?_eq_none (by rw [Array.length_toList]; omega)]
    subst hus
    have hkk : ∀ b o, b ≠ h.objs.size → (h.push { cls := .type "list_iterator", data := .fields #[.ref l, .int 0 0] }).get? b = some o → h'.get? b = some o := fun b o hb e => hk b o (by simpa using hb) e
    have hold : ∀ b o, h.get? b = some o → h'.get? b = some o := fun b o e => hkk b o (Nat.ne_of_lt (Heap.lt_size e)) (Heap.get?_push_of_some _ e)
    have hDh : h.get? D = none := by
      cases e : h.get? D with
      | none => rfl
      | some o => have := Heap.get?_push_of_some { cls := .type "list_iterator", data := .fields #[.ref l, .int 0 0] } e; exact absurd (hD.symm.trans this) (by simp)
    refine hq D h' tk ys n ⟨(S.keeps hold).F, fun p hp => ?_⟩ (fun p hp e => ?_) hold hF
    · rcases List.mem_cons.mp hp with rfl | hp
      · refine ⟨hDn, fun e => ?_, ?_⟩
        · obtain ⟨oL, _, _, hoL, _⟩ := S.F.ns
          rw [← e, hDh] at hoL; cases hoL
        · cases e : g.get? D with
          | none => rfl
          | some o => have := S.F.keep _ _ e; rw [hDh] at this; cases this
      · exact (S.keeps hold).N p hp
    · have := (S.N p hp).1; rw [e, hDh] at this; cases this
end
end
noncomputable section
section
variable {prog : Program} {w : World} {A : Around} {E : Value → Shared → Prop} {s : Shared} {h : Heap} {t : Nat} {g : Heap} {L : Addr} {m : Str → Option Value} {news : List (Addr × Obj)} {env : Env}
  {cn : Str} {cs : Scope} {a : Addr} {ccd : Value} {cl : List (Str × Addr)} {p : Program} {loose : List Str} {mean : ExcName → Option Value} {mg mb : Str → Option Value} {outer : List Env} {A₀ : Around} {base : Heap}
  {x : Str} {pos : Pos} {v : Value} {Q : Value → Shared → Prop} {id : String}
theorem Cx.in (C : Cx w p loose mean mg mb cs outer A₀ base g) (S : St g L m news h) : (hd.heap_39 w.params).In h := C.X.keeps S.F.keep
theorem e_gK (C : Cx w p loose mean mg mb cs outer A₀ base g) (S : St g L m news h) (e : nsIn (hd.heap_39 w.params) mainGlobals x = some (some v)) (hg : env.globals = mainGlobals) (hk : env.scope.kind = .function)
    (hx : env.kindOf x = some .globalImplicit) (hd : (x == ("__debug__" : Str)) = false) (hq : Q v (sh s h t)) : wpAny (model prog w) A (eval (.Name x pos) env) Q E (sh s h t) :=
  Name_function_global hk hx (loadGlobal_global (env := env) (by rw [hg]; exact C.T.g.keeps S.F.keep) (mg_of C.X C.T.g e) hq) hd
theorem e_gB (C : Cx w p loose mean mg mb cs outer A₀ base g) (S : St g L m news h) (e : nsIn (hd.heap_39 w.params) mainGlobals x = some none) (hv : bootBuiltins x = some v) (hn : x ≠ "__name__") (hg : env.globals = mainGlobals) (hb : env.builtins = builtinsNs) (hk : env.scope.kind = .function)
    (hx : env.kindOf x = some .globalImplicit) (hd : (x == ("__debug__" : Str)) = false) (hq : Q v (sh s h t)) : wpAny (model prog w) A (eval (.Name x pos) env) Q E (sh s h t) :=
  Name_function_global hk hx (loadGlobal_builtin (env := env) (by rw [hg]; exact C.T.g.keeps S.F.keep) (mg_none_of C.X C.T.g e) (by rw [hb]; exact C.T.b.keeps S.F.keep) ((C.T.builtins x hn).trans hv) hq) hd
/-- a name of a comprehension's own block -/
theorem e_nsL {M : Model} {D : Addr} {mD : Str → Option Value} (hn : h.Ns D mD) (hv : mD x = some v) (hD : env.locals = D) (hk : env.scope.kind = .function) (hx : env.kindOf x = some .local) (hd : (x == ("__debug__" : Str)) = false) (hq : Q v (sh s h t)) :
    wpAny M A (eval (.Name x pos) env) Q E (sh s h t) := by
  subst hD
  exact wpAny_Name (wpAny_loadName_local hk hx hn hv hq) hd
/-- a name in a cell of the ledger -/
theorem e_cell {M : Model} {c : Addr} {o : Obj} (S : St g L m news h) (hc : env.cells.lookup x = some c) (hm : (c, o) ∈ news) (hd : o.data = .cell (some v)) (hk : env.scope.kind = .function) (hx : env.kindOf x = some .cell) (hb : (x == ("__debug__" : Str)) = false) (hq : Q v (sh s h t)) :
    wpAny M A (eval (.Name x pos) env) Q E (sh s h t) := wpAny_Name (wpAny_loadName_cell hk hx hc ⟨o, S.N.get hm, hd⟩ hq) hb
theorem e_none {M : Model} {k : Nat} (hq : Q .none s) : wpAny M A (eval (.Constant .none k pos) env) Q E s := fun _ _ _ => hq
theorem e_bool {M : Model} {k : Nat} {b : Bool} (hq : Q (.bool b) s) : wpAny M A (eval (.Constant (.bool b) k pos) env) Q E s := fun _ _ _ => hq

/-! calls -/
theorem e_call {M : Model} {func : Expr} {args : List Expr}
    (he : eval (.Call func args [] pos) env = (do callWith pos (← eval func env) [] (backTo pos (starEach args env)) (backToKw pos (keywordEach [] env))))
    (hq : wpAny M A (eval func env) (fun f s₁ => wpAny M A (callWith pos f [] (backTo pos (starEach args env)) []) Q E s₁) E s) : wpAny M A (eval (.Call func args [] pos) env) Q E s := Call_ hq he
theorem cw_K {f : Addr} {first : List Value} {e : Expr} {rest : List Expr} (hk : keepIn (hd.heap_39 w.params) (.ref f) = true) (he : starEach (e :: rest) env = (false, eval e env) :: starEach rest env) (hplain : (backTo pos (starEach rest env)).any (·.1) = false)
    (hq : wpAny (model prog w) A (spliced (backTo pos (starEach (e :: rest) env))) (fun vs s₁ => (hd.heap_39 w.params).In s₁.heap ∧ wpAny (model prog w) A (call (.ref f) (first ++ vs)) Q E s₁) E s) :
    wpAny (model prog w) A (callWith pos (.ref f) first (backTo pos (starEach (e :: rest) env)) []) Q E s := by
  rw [he] at hq ⊢
  exact callWith_of (by show ((false || (backTo pos (starEach rest env)).any (·.1)) || false) = false; rw [hplain]; rfl) (keeps_K hk) (evalArgs_plain hq)
theorem cw_K0 {f : Addr} {first : List Value} (C : Cx w p loose mean mg mb cs outer A₀ base g) (S : St g L m news h) (hk : keepIn (hd.heap_39 w.params) (.ref f) = true) (hq : wpAny (model prog w) A (call (.ref f) (first ++ [])) Q E (sh s h t)) :
    wpAny (model prog w) A (callWith pos (.ref f) first (backTo pos (starEach [] env)) []) Q E (sh s h t) := callWith_K0 (C.in S) hk hq
theorem cw_B {M : Model} {first : List Value} {e : Expr} {rest : List Expr} (he : starEach (e :: rest) env = (false, eval e env) :: starEach rest env) (hplain : (backTo pos (starEach rest env)).any (·.1) = false)
    (hq : wpAny M A (spliced (backTo pos (starEach (e :: rest) env))) (fun vs s₁ => wpAny M A (call (.builtin id) (first ++ vs)) Q E s₁) E s) :
    wpAny M A (callWith pos (.builtin id) first (backTo pos (starEach (e :: rest) env)) []) Q E s := callWith_method1 hq he hplain
theorem cw_B0 {M : Model} {first : List Value} (hq : wpAny M A (call (.builtin id) first) Q E s) : wpAny M A (callWith pos (.builtin id) first (backTo pos (starEach [] env)) []) Q E s := callWith_method0 hq
theorem call_nil {M : Model} {f : Value} {vs : List Value} (hq : wpAny M A (call f vs) Q E s) : wpAny M A (call f ([] ++ vs)) Q E s := hq
theorem call_one {M : Model} {f v : Value} {vs : List Value} (hq : wpAny M A (call f (v :: vs)) Q E s) : wpAny M A (call f ([v] ++ vs)) Q E s := hq
theorem and_in {P : Prop} (C : Cx w p loose mean mg mb cs outer A₀ base g) (S : St g L m news h) (hq : P) : (hd.heap_39 w.params).In (sh s h t).heap ∧ P := ⟨C.in S, hq⟩
theorem e_meth {M : Model} {o : Expr} {name : Str} {apos : Pos} {args : List Expr} {pl : Sem Bool}
    (he : eval (.Call (.Attribute o name apos) args [] pos) env = (do
      let ov ← eval o env
      standAt apos.atName
      let (f, first) ← holding [ov] (getMethod ov name pl)
      callWith pos f first (backTo pos (starEach args env)) []))
    (hq : wpAny M A (eval o env) (fun ov s₁ => wpAny M A (getMethod ov name pl) (fun fx s₂ => wpAny M A (callWith pos fx.1 fx.2 (backTo pos (starEach args env)) []) Q E s₂) E s₁) E s) :
    wpAny M A (eval (.Call (.Attribute o name apos) args [] pos) env) Q E s := MethodCall_ hq he
section
variable {pl : Sem Bool} {y : Str} {u : Tok} {R : Value × List Value → Shared → Prop}
theorem str_noref (y : Str) (u : Tok) (s : Shared) : ∀ (a : Addr), Value.str y u = Value.ref a → ∃ o, s.heap.get? a = some o ∧ o.dict = none := fun _ e => Value.noConfusion e
theorem gm_str {M : Model} (name : Str) (id : String) (slot : Slot "str" name id) (hty : typeOf (.builtin id) = pure (.type "method_descriptor")) (hq : R (.builtin id, [.str y u]) s) : wpAny M A (getMethod (.str y u) name pl) R E s := by
  have q := @getMethod_builtin M A E s (.str y u) "str" name id pl R (typeIs_str s y u) PySem.F.plainAttrs_str slot hty (str_noref y u s)
  exact q hq
theorem gm_join {M : Model} (hq : R (.builtin "str.join", [.str y u]) s) : wpAny M A (getMethod (.str y u) (Str.ofString "join") pl) R E s := @gm_str A E s pl y u R M (Str.ofString "join") "str.join" PySem.F.slot_str_join PySem.F.type_str_join hq
theorem gm_lower {M : Model} (hq : R (.builtin "str.lower", [.str y u]) s) : wpAny M A (getMethod (.str y u) (Str.ofString "lower") pl) R E s := @gm_str A E s pl y u R M (Str.ofString "lower") "str.lower" PySem.F.slot_str_lower PySem.F.type_str_lower hq
theorem gm_replace {M : Model} (hq : R (.builtin "str.replace", [.str y u]) s) : wpAny M A (getMethod (.str y u) (Str.ofString "replace") pl) R E s := @gm_str A E s pl y u R M (Str.ofString "replace") "str.replace" PySem.F.slot_str_replace PySem.F.type_str_replace hq
theorem gm_encode {M : Model} (hq : R (.builtin "str.encode", [.str y u]) s) : wpAny M A (getMethod (.str y u) (Str.ofString "encode") pl) R E s := @gm_str A E s pl y u R M (Str.ofString "encode") "str.encode" PySem.F.slot_str_encode PySem.F.type_str_encode hq
theorem gm_append {M : Model} {l : Addr} {vs : Array Value} {n : Nat} (S : St g L m news h) (hm : (l, W.listOf vs n) ∈ news) (hq : R (.builtin "list.append", [.ref l]) (sh s h t)) : wpAny M A (getMethod (.ref l) (Str.ofString "append") pl) R E (sh s h t) :=
  getMethod_list_append (S.N _ hm).1 rfl rfl hq
end

/-! strs -/
abbrev so (l : List Nat) : Str := ⟨l.toArray⟩
theorem so_append (a b : List Nat) : so a ++ so b = so (a ++ b) := by
  show (⟨_⟩ : Str) = ⟨_⟩
  simp
theorem so_empty : Str.ofString "" = so [] := by decide +kernel
theorem join_so : ∀ ls : List (List Nat), Str.join (so []) (ls.map so) = so ls.flatten
  | [] => rfl
  | [a] => by simp [Str.join]
  | a :: b :: r => by
    show so a ++ so [] ++ Str.join (so []) ((b :: r).map so) = _
    rw [join_so (b :: r), so_append, so_append, List.append_nil]; rfl
theorem c_join {l : Addr} {vs : Array Value} {c : Nat} {u : Tok} {ls : List (List Nat)} (S : St g L m news h) (hm : (l, W.listOf vs c) ∈ news) (hi : StrsAre vs.toList (ls.map so)) (hok : ls.flatten.length ≤ 16777216)
    (hq : ∀ u t', Q (.str (so ls.flatten) u) (sh s h t')) : wpAny (model prog w) A (call (.builtin "str.join") [.str (Str.ofString "") u, .ref l]) Q E (sh s h t) := by
  rw [so_empty]
  refine join_list (s := sh s h t) (S.isList hm) hi ?_ (fun u k => ?_)
  · have e : ((ls.map so).map (·.length)).sum = ls.flatten.length := by
      rw [List.length_flatten, List.map_map]
      congr 1
    rw [e]
    show _ + _ * 0 ≤ _
    simpa using hok
  · have e : Txt.join (so []) (ls.map so) = so ls.flatten := by
      unfold Txt.join
      rw [StrLaws.glued_eq_join]
      exact join_so ls
    rw [e]; exact hq u k
theorem c_chr {i : Int} {u : Tok} (n : Nat) (hi : i = n) (hn : n ≤ 1114111) (hq : ∀ u t', Q (.str (so [n]) u) (sh s h t')) : wpAny (model prog w) A (call (.builtin "chr") [.int i u]) Q E (sh s h t) := by
  subst hi
  exact chr_of_range (s := sh s h t) (by omega) (by omega) (hq _ _)
theorem c_ord {c : Nat} {u : Tok} (hq : ∀ u t', Q (.int (c : Int) u) (sh s h t')) : wpAny (model prog w) A (call (.builtin "ord") [.str (so [c]) u]) Q E (sh s h t) := P.ord_of_char (s := sh s h t) (hq _ _)
/-- a function upon ints, read off a comprehension's pairs -/
def FI (f : Int → Str) (v y : Value) : Prop := ∀ n t, v = .int n t → ∃ t', y = .str (f n) t'
theorem strs_paired {f : Int → Str} : ∀ {vs : List Value} {ns : List Int} {ys : List Value}, IntsAre vs ns → Paired (FI f) vs ys → StrsAre ys (ns.map f)
  | _, _, _, .nil, .nil => .nil
  | _, _, _, .cons n t hi, .cons hf hp => by
    obtain ⟨t', rfl⟩ := hf n t rfl
    exact .cons _ _ (strs_paired hi hp)
def GI (f : Int → Int) (v y : Value) : Prop := ∀ n t, v = .int n t → ∃ t', y = .int (f n) t'
theorem ints_paired {f : Int → Int} : ∀ {vs : List Value} {ns : List Int} {ys : List Value}, IntsAre vs ns → Paired (GI f) vs ys → IntsAre ys (ns.map f)
  | _, _, _, .nil, .nil => .nil
  | _, _, _, .cons n t hi, .cons hf hp => by
    obtain ⟨t', rfl⟩ := hf n t rfl
    exact .cons _ _ (ints_paired hi hp)
theorem ints_at {vs : Array Value} {ns : List Nat} (hi : IntsAre vs.toList (iz ns)) {i : Nat} {v : Value} (hv : vs[i]? = some v) : ∃ (n : Nat) (t : Tok), v = .int (n : Int) t ∧ ns[i]? = some n := by
  obtain ⟨n, t, e, hn⟩ := IntsAre.at hi i v (by simpa using hv)
  rw [List.getElem?_map] at hn
  obtain ⟨k, hk, rfl⟩ := Option.map_eq_some_iff.mp hn
  exact ⟨k, t, e, hk⟩
theorem paired_imp {α β : Type} {F G : α → β → Prop} : ∀ {l₁ : List α} {l₂ : List β}, Paired F l₁ l₂ → (∀ a b, F a b → G a b) → Paired G l₁ l₂
  | _, _, .nil, _ => .nil
  | _, _, .cons hf hp, hi => .cons (hi _ _ hf) (paired_imp hp hi)
end
end
noncomputable section
section
variable {prog : Program} {w : World} {A : Around} {E : Value → Shared → Prop} {s : Shared} {h : Heap} {t : Nat} {g : Heap} {L : Addr} {m : Str → Option Value} {news : List (Addr × Obj)} {env : Env}
  {pos : Pos} {Q : Value → Shared → Prop} {R : Bool → Shared → Prop}
theorem e_ifexp {M : Model} {test body orelse : Expr} (hq : wpAny M A (isTrue test env (eval test env)) (fun b s₂ => (b = true → wpAny M A (eval body env) Q E s₂) ∧ (b = false → wpAny M A (eval orelse env) Q E s₂)) E s) :
    wpAny M A (eval (.IfExp test body orelse pos) env) Q E s :=
  IfExp_ (wpAny_mono hq (fun b s₂ q => by cases b; exact q.2 rfl; exact q.1 rfl) fun _ _ x => x)
theorem e_cmp {M : Model} {l r : Expr} {op : CmpOp} (hm : behindInMarks op r = false) (hq : wpAny M A (eval l env) (fun a s₁ => wpAny M A (eval r env) (fun b s₂ => wpAny M A (compareOp op a b) Q E s₂) E s₁) E s) :
    wpAny M A (eval (.Compare l [op] [r] pos) env) Q E s := wpAny_Compare1 hq hm
theorem t_and {M : Model} {x : Expr} {rest : List Expr} {whole : Sem Value} (hq : wpAny M A (isTrue x env (eval x env)) (fun b s₂ => (b = true → wpAny M A (isTrue (.BoolOp .And rest pos) env whole) R E s₂) ∧ (b = false → R false s₂)) E s) :
    wpAny M A (isTrue (.BoolOp .And (x :: rest) pos) env whole) R E s :=
  isTrue_and (wpAny_mono hq (fun b s₂ q => by cases b; exact q.2 rfl; exact q.1 rfl) fun _ _ x => x)
theorem t_or {M : Model} {x : Expr} {rest : List Expr} {whole : Sem Value} (hq : wpAny M A (isTrue x env (eval x env)) (fun b s₂ => (b = true → R true s₂) ∧ (b = false → wpAny M A (isTrue (.BoolOp .Or rest pos) env whole) R E s₂)) E s) :
    wpAny M A (isTrue (.BoolOp .Or (x :: rest) pos) env whole) R E s :=
  isTrue_or (wpAny_mono hq (fun b s₂ q => by cases b; exact q.2 rfl; exact q.1 rfl) fun _ _ x => x)
theorem t_and0 {M : Model} {whole : Sem Value} (hq : R true s) : wpAny M A (isTrue (.BoolOp .And [] pos) env whole) R E s := isTrue_and_nil hq
theorem t_or0 {M : Model} {whole : Sem Value} (hq : R false s) : wpAny M A (isTrue (.BoolOp .Or [] pos) env whole) R E s := isTrue_or_nil hq
theorem t_plain {M : Model} {e : Expr} {whole : Sem Value} (he : isTrue e env whole = (do let v ← whole; standAt e.pos; holding [v] (truthy v))) (hq : wpAny M A whole (fun v s₁ => wpAny M A (truthy v) R E s₁) E s) : wpAny M A (isTrue e env whole) R E s := isTrue_plain hq he
theorem t_chain2 {M : Model} {l r₁ r₂ : Expr} {op₁ op₂ : CmpOp} {whole : Sem Value} (hm : lastMarks [op₁, op₂] [r₁, r₂] = false)
    (hq : wpAny M A (eval l env) (fun a s₁ => wpAny M A (eval r₁ env) (fun b s₂ => wpAny M A (compareOp op₁ a b) (fun c s₃ => wpAny M A (truthy c) (fun k s₄ => (k = true → wpAny M A (eval r₂ env) (fun d s₅ => wpAny M A (compareOp op₂ b d) (fun e s₆ => wpAny M A (truthy e) R E s₆) E s₅) E s₄) ∧ (k = false → R false s₄)) E s₃) E s₂) E s₁) E s) :
    wpAny M A (isTrue (.Compare l [op₁, op₂] [r₁, r₂] pos) env whole) R E s := by
  refine isTrue_chain (wpAny_mono hq (fun a s₁ q => ?_) fun _ _ x => x) hm
  show wpAny M A (do
    let rv ← holding [a] (eval r₁ env)
    standAt pos
    let c ← holding [a, rv] (compareOp op₁ a rv)
    release [a, rv] [c]
    if ← holding [c, rv] (truthy c) then testChain pos rv [op₂] [eval r₂ env] else pure false) R E s₁
  refine wpAny_bind (wpAny_holding (wpAny_mono q (fun b s₂ q => wpAny_bind (wpAny_standAt (wpAny_bind (wpAny_holding (wpAny_mono q (fun c s₃ q => wpAny_bind (wpAny_release' (wpAny_bind (wpAny_holding (wpAny_mono q (fun k s₄ q => ?_) fun _ _ x => x)))))
    fun _ _ x => x))))) fun _ _ x => x))
  cases k
  · exact wpAny_pure (q.2 rfl)
  · show wpAny M A (do
      let rv ← holding [b] (eval r₂ env)
      standAt pos
      let c ← operate [b, rv] (compareOp op₂ b rv)
      holding [c] (truthy c)) R E s₄
    exact wpAny_bind (wpAny_holding (wpAny_mono (q.1 rfl) (fun d s₅ q => wpAny_bind (wpAny_standAt (wpAny_bind (wpAny_operate' (wpAny_mono q (fun e s₆ q => wpAny_holding q) fun _ _ x => x))))) fun _ _ x => x))

variable {i j : Int} {u v : Tok}
theorem o_lt (hq : Q (.bool (decide (i < j))) (sh s h t)) : wpAny (model prog w) A (compareOp .Lt (.int i u) (.int j v)) Q E (sh s h t) := PyProof.Rows.lt_int (s := sh s h t) hq
theorem o_le (hq : Q (.bool (decide (i ≤ j))) (sh s h t)) : wpAny (model prog w) A (compareOp .LtE (.int i u) (.int j v)) Q E (sh s h t) := PyProof.Rows.le_int (s := sh s h t) hq
theorem o_eq (hq : Q (.bool (i == j)) (sh s h t)) : wpAny (model prog w) A (compareOp .Eq (.int i u) (.int j v)) Q E (sh s h t) := PyProof.Rows.eq_int (s := sh s h t) hq
theorem o_ne (hq : Q (.bool (i != j)) (sh s h t)) : wpAny (model prog w) A (compareOp .NotEq (.int i u) (.int j v)) Q E (sh s h t) := PyProof.Rows.ne_int (s := sh s h t) hq
theorem o_mul (hm : IntMulOk i j) (hq : ∀ u t', Q (.int (i * j) u) (sh s h t')) : wpAny (model prog w) A (binaryOp .Mult (.int i u) (.int j v)) Q E (sh s h t) := PyProof.Rows.mul_int (s := sh s h t) (hq _ _) hm
theorem o_and (hq : ∀ u t', Q (.int (Builtin.bitAnd i j) u) (sh s h t')) : wpAny (model prog w) A (binaryOp .BitAnd (.int i u) (.int j v)) Q E (sh s h t) := PyProof.Rows.and_int (s := sh s h t) (hq _ _)
theorem o_or (hq : ∀ u t', Q (.int (Builtin.bitOr i j) u) (sh s h t')) : wpAny (model prog w) A (binaryOp .BitOr (.int i u) (.int j v)) Q E (sh s h t) := PyProof.Rows.or_int (s := sh s h t) (hq _ _)
theorem o_xor (hq : ∀ u t', Q (.int (Builtin.bitXor i j) u) (sh s h t')) : wpAny (model prog w) A (binaryOp .BitXor (.int i u) (.int j v)) Q E (sh s h t) := PyProof.Rows.xor_int (s := sh s h t) (hq _ _)
theorem o_adds {a b : List Nat} {u v : Tok} (hsz : a.length + b.length ≤ sizeLine) (hq : ∀ u t', Q (.str (so (a ++ b)) u) (sh s h t')) : wpAny (model prog w) A (binaryOp .Add (.str (so a) u) (.str (so b) v)) Q E (sh s h t) := by
  refine PyProof.Rows.add_str (s := sh s h t) (fun u k => ?_) ?_
  · rw [so_append]; exact hq u k
  · show (so a).cps.size + (so b).cps.size ≤ _
    simpa using hsz
def IL (news : List (Addr × Obj)) (l : Addr) (ns : List Nat) : Prop := ∃ vs c, (l, W.listOf vs c) ∈ news ∧ IntsAre vs.toList (iz ns)
theorem IL.mono {news news' : List (Addr × Obj)} {l : Addr} {ns : List Nat} (x : IL news l ns) (hs : ∀ p ∈ news, p ∈ news') : IL news' l ns := let ⟨vs, c, hm, hi⟩ := x; ⟨vs, c, hs _ hm, hi⟩
theorem a_name {M : Model} {x : Str} {px : Pos} {v : Value} {Q : Unit → Shared → Prop} (hq : wpAny M A (storeName env x v) Q E s) : wpAny M A (assign (.Name x px) env v) Q E s := wpAny_assign_Name hq
theorem o_mulL {l : Addr} {items : Array Value} {k : Nat} {u : Tok} {x : Int} (n : Nat) (S : St g L m news h) (hl : (l, W.listOf items k) ∈ news) (hx : x = n) (hn : n < 2 ^ 20) (hsz : items.size ≤ 16) (hne : items.isEmpty = false)
    (hq : ∀ a h', (∀ p ∈ news, p.1 < a) → St g L m ((a, W.listOf (List.foldl (fun x1 x2 => x1 ++ x2) #[] (List.replicate n items)) 0) :: news) h' → Q (.ref a) (sh s h' t)) : wpAny (model prog w) A (binaryOp .Mult (.ref l) (.int x u)) Q E (sh s h t) := by
  subst hx
  refine mul_list (s := sh s h t) S.F S.N (S.N _ hl).1 (by omega) (by omega) ?_ (fun h' F' N' => hq _ h' S.lt ⟨F', ?_⟩)
  · rw [Int.toNat_natCast]
    exact Nat.le_trans (Nat.mul_le_mul hsz (Nat.le_of_lt hn)) (by decide)
  · rw [hne] at N'
    exact N'
theorem tgt_name {prog : Program} {w : World} {x : Str} {px : Pos} {l : Addr} {vs : Array Value} : ∀ (it : Addr) (i : Nat) (v : Value) (s' : Shared) (Q' : Unit → Shared → Prop) (E' : Value → Shared → Prop), s'.heap.IsListIter it l i → vs[i - 1]? = some v → Q' () s' → wpAny (model prog w) A (letOwnedTupleGo (.Name x px) (.ref it) v) Q' E' s' :=
  fun _ _ _ _ _ _ _ _ hq => wpAny_pure hq
theorem vint_eq {i j : Int} {u : Tok} (e : i = j) : some (Value.int i u) = some (Value.int j u) := by rw [e]
theorem leave_new {g' h' : Heap} {L' l : Addr} {o : Obj} {m' : Str → Option Value} {rest : List (Addr × Obj)} {t' : Nat} {v : Value} {post : Value → List (Addr × Obj) → Prop} (S : St g L m news h) (G : GSub h g' (news.map (·.1))) (S' : St g' L' m' ((l, o) :: rest) h') (hs : ∀ p ∈ news, p ∈ rest) (hne : ∀ q ∈ news, q.1 ≠ l)
    (hret : ∀ v tl h' t', St g L m (tl ++ news) h' → (∀ b o, h.get? b = some o → h'.get? b = some o) → (∀ q ∈ news, ∀ p ∈ tl, q.1 ≠ p.1) → post v tl → Q v (sh s h' t')) (hp : post v [(l, o)]) : Lv g L m g' Q (.ret v) (sh s h' t') :=
  leave_r S' fun S₂ => hret v [(l, o)] h' t' (S₂.sub fun p hp => by
    rcases List.mem_cons.mp hp with rfl | hp
    · exact .head _
    · exact .tail _ (hs p hp)) (keep_of S G S' fun p hp => .tail _ (hs p hp)) (fun q hq p hp => by rw [List.mem_singleton.mp hp]; exact hne q hq) hp
theorem leave_old {g' h' : Heap} {L' : Addr} {m' : Str → Option Value} {rest : List (Addr × Obj)} {t' : Nat} {v : Value} {post : Value → List (Addr × Obj) → Prop} (S : St g L m news h) (G : GSub h g' (news.map (·.1))) (S' : St g' L' m' rest h') (hs : ∀ p ∈ news, p ∈ rest)
    (hret : ∀ v tl h' t', St g L m (tl ++ news) h' → (∀ b o, h.get? b = some o → h'.get? b = some o) → (∀ q ∈ news, ∀ p ∈ tl, q.1 ≠ p.1) → post v tl → Q v (sh s h' t')) (hp : post v []) : Lv g L m g' Q (.ret v) (sh s h' t') :=
  leave_r S' fun S₂ => hret v [] h' t' (S₂.sub hs) (keep_of S G S' hs) (fun _ _ _ hp => by cases hp) hp
end
end
local macro_rules | `(tactic| walk_at "RM") => `(tactic| first | exact rm0 (by assumption) (by decide) | exact rm1 (by assumption) (by decide) | omega)
local macro_rules | `(tactic| walk_at "MEM") => `(tactic| first | assumption | exact List.Mem.head _ | (refine List.Mem.tail _ ?_; walk_at "MEM"))
local macro_rules | `(tactic| walk_at "SZ") => `(tactic| ((try simp only [List.size_toArray, List.length_append, List.length_cons, List.length_nil, Array.length_toList, sizeLine_eq]); omega))
local macro_rules | `(tactic| walk_at "W1") => `(tactic| first
  | ((with_reducible refine' x_assign ?hs ?_); (case hs => exact rfl))
  | ((with_reducible refine' x_store ?S ?hk ?hx ?_); (case S => assumption); (case hk | hx => exact rfl); intro h' t' S')
  | ((with_reducible refine' e_nameL ?S ?hv ?hk ?hx ?hd ?_); (case S => assumption); (case hk | hx => exact rfl); (case hd => decide); (case hv => first | exact rfl | assumption))
  | ((with_reducible refine' e_int ?_); intro _ _)
  | ((with_reducible refine' e_str ?_); intro _ _)
  | (with_reducible refine' e_bin ?_)
  | ((with_reducible refine' t_cmp ?hm ?_); (case hm => exact rfl))
  | (with_reducible refine' truthy_b ?_)
  | ((with_reducible refine' s_cons ?he ?_); (case he => exact rfl))
  | (with_reducible refine' s_nil' ?_)
  | (with_reducible refine' e_list ?_)
  | ((with_reducible refine' newList_ ?S ?hz ?_); (case S => assumption); (case hz => walk_at "SZ"); intro l' h' hl' S')
  | ((with_reducible refine' o_add ?_); intro _ _)
  | ((with_reducible refine' o_sub ?_); intro _ _)
  | ((with_reducible refine' o_mod ?hb ?_); (case hb => decide); intro _ _)
  | (with_reducible refine' o_gt ?_)
  | ((with_reducible refine' o_fdiv ?hj ?hs ?_); (case hj => decide); (case hs => exact Or.inl (PyProof.noPylong_of_log2 (by decide +kernel))); intro _ _)
  | ((with_reducible refine' o_addL ?S ?hl ?hb ?hz ?_); (case S => assumption); (case hl | hb => walk_at "MEM"); (case hz => walk_at "SZ"); intro a' h' ha' S')
  | ((with_reducible refine' e_nsL ?hn ?hv ?hD ?hk ?hx ?hd ?_); (case hn => assumption); (case hD | hk | hx => exact rfl); (case hd => decide); (case hv => first | exact rfl | assumption))
  | ((with_reducible refine' e_gK ?C ?S ?e ?hg ?hk ?hx ?hd ?_); (case C | S => assumption); (case hg | hk | hx => exact rfl); (case hd => decide); (case e => k_is))
  | ((with_reducible refine' e_gB ?C ?S ?e ?hv ?hn ?hg ?hb ?hk ?hx ?hd ?_); (case C | S => assumption); (case hg | hb => exact rfl); (case hk | hx => exact rfl); (case hd => decide); (case e => k_is); (case hv => boot_fast); (case hn => decide))
  | ((with_reducible refine' e_meth (pl := _) ?he ?_); (case he => exact rfl))
  | ((with_reducible refine' e_call ?he ?_); (case he => exact rfl))
  | ((with_reducible refine' cw_K ?hk ?he ?hp ?_); (case hk => k_is); (case he | hp => exact rfl))
  | ((with_reducible refine' cw_K0 ?C ?S ?hk ?_); (case C | S => assumption); (case hk => k_is))
  | ((with_reducible refine' cw_B ?he ?hp ?_); (case he | hp => exact rfl))
  | (with_reducible refine' cw_B0 ?_)
  | (with_reducible refine' call_nil ?_)
  | (with_reducible refine' call_one ?_)
  | ((with_reducible refine' and_in ?C ?S ?_); (case C | S => assumption))
  | (with_reducible refine' gm_join ?_)
  | (with_reducible refine' gm_lower ?_)
  | (with_reducible refine' gm_replace ?_)
  | (with_reducible refine' gm_encode ?_)
  | ((with_reducible refine' gm_append ?S ?hm ?_); (case S => assumption); (case hm => walk_at "MEM"))
  | (with_reducible refine' e_none ?_)
  | (with_reducible refine' e_bool ?_)
  | (with_reducible refine' e_ifexp ?_)
  | ((with_reducible refine' e_cmp ?hm ?_); (case hm => exact rfl))
  | (with_reducible refine' t_and0 ?_)
  | (with_reducible refine' t_and ?_)
  | (with_reducible refine' t_or0 ?_)
  | (with_reducible refine' t_or ?_)
  | ((with_reducible refine' t_chain2 ?hm ?_); (case hm => exact rfl))
  | ((with_reducible refine' t_plain ?he ?_); (case he => exact rfl))
  | (with_reducible refine' o_lt ?_)
  | (with_reducible refine' o_le ?_)
  | (with_reducible refine' o_eq ?_)
  | (with_reducible refine' o_ne ?_)
  | ((with_reducible refine' o_and ?_); intro _ _)
  | ((with_reducible refine' o_or ?_); intro _ _)
  | ((with_reducible refine' o_xor ?_); intro _ _)
  | ((with_reducible refine' o_mul ?hm ?_); (case hm => first | exact IntMulOk.of_right (by decide) | exact IntMulOk.of_left (by decide) | assumption); intro _ _)
  | ((with_reducible refine' x_for ?hs ?_); (case hs => exact fun _ => rfl))
  | (with_reducible refine' a_name ?_)
  | (with_reducible refine' x_app_cons ?_)
  | (with_reducible refine' x_app_nil ?_)
  | (with_reducible refine' x_if ?_)
  | (with_reducible refine' x_nil ?_)
  | (with_reducible refine' x_ret ?_))
local macro_rules | `(tactic| walk_at "W") => `(tactic| repeat' (walk_at "W1" <;> (try (show PySem.wpAny _ _ _ _ _ _))))

example : hd.heap_39 = hd.heap_39 ∧ PySem.Challenge.rw_pm0042_01 = PySem.Challenge.rw_pm0042_01 := by
  k_fill
  exact ⟨rfl, rfl⟩
noncomputable section
def JF (number : Nat) (news : List (Addr × Obj)) (n : Nat) (m₁ : Str → Option Value) (n₁ : List (Addr × Obj)) : Prop :=
  ∃ (acc : List Nat) (l : Addr) (vs : Array Value) (c : Nat) (u : Tok), m₁ (Str.ofString "number") = some (.int n u) ∧ m₁ (Str.ofString "figures") = some (.ref l) ∧ (∀ p ∈ news, p ∈ n₁) ∧ (l, W.listOf vs c) ∈ n₁ ∧ (∀ q ∈ news, q.1 < l) ∧ IntsAre vs.toList (iz acc) ∧ figs n ++ acc = figs number
theorem figures_fn : ∀ (w : World) (number : Nat) (hN : number < 64 ^ 11) (u : Tok) (news : List (Addr × Obj)),
    Fn w 1 193 [.int number u] [] news (fun v tl => ∃ l vs c, v = .ref l ∧ tl = [(l, W.listOf vs c)] ∧ IntsAre vs.toList (iz (figs number))) := by
  intro w number hN u news
  intro p loose mean mg mb dp un gd cn cs L a ccd cl outer A₀ base g m s h t Q E C S hd hu hret
  refine' call_fn [(Str.ofString "number", Value.int number u)] C S ?k6 ?k7 ?k8 ?k9 ?kB ?c2 ?c3 ?c4 ?c5 ?_
  case k6 => k_is
  case k7 => k_is
  case k8 => omega
  case k9 => exact BindsTo.of_eq rfl
  case kB => exact locs rfl
  case c2 => exact rfl
  case c3 => exact rfl
  case c4 => exact rfl
  case c5 => decide
  intro g' L' h' t' S' C' hlt G
  walk_at "W"
  rename_i l₀ h₁ hl₀ S₁ h₂ t₂ S₂
  refine' x_while (JF number news) number S₂ ⟨[], l₀, _, _, u, rfl, rfl, fun p hp => .tail _ hp, .head _, hl₀, .nil, by simp⟩ ?_ (by passes_own)
  rintro n m₁ n₁ h₁ t₁ S₃ ⟨acc, l, vs, c, u', hn, hf, hs, hl, hlt, hi, he⟩
  have hz := figs_len 11 number hN
  rw [← he] at hz
  have hz' := IntsAre.sizeA hi
  simp only [List.length_append] at hz
  walk_at "W"
  refine ⟨fun hb => ?_, fun hb => ?_⟩
  · have hn0 : 0 < n := by simpa using hb
    walk_at "W"
    rename_i a₂ h₂ hl₂ S₄ a₃ h₃ hl₃ S₅ h₄ t₄ S₆ uc tc u₅ t₅ h₅ t₅' S₇
    refine ⟨rfl, h₅, t₅', _, _, n / 64, rfl, S₇, by omega, n % 64 :: acc, a₃, _, 0, u₅, ?_, rfl, fun p hp => .tail _ (.tail _ (hs p hp)), .head _, fun q hq => hl₃ q (.tail _ (hs q hq)), ?_, ?_⟩
    · exact congrArg some (congrArg (Value.int · u₅) (fdivN n 64))
    · refine IntsAre.append (vs := [_]) (ns := [_]) ?_ hi
      rw [show (n : Int).fmod 64 = ((n % 64 : Nat) : Int) from fmodN n 64]
      exact .cons _ _ .nil
    · rw [← he, figs_pos hn0, List.append_assoc]; rfl
  · have hn0 : n = 0 := by
      have : ¬ (0 < n) := by simpa using hb
      omega
    walk_at "W"
    subst hn0
    rw [figs_zero, List.nil_append] at he
    subst he
    refine leave_r S₃ fun S₄ => hret _ [(l, W.listOf vs c)] h₁ _ (S₄.sub (by rintro p (_ | ⟨_, hp⟩); exact hl; exact hs p hp)) (keep_of S G S₃ hs) ?_ ⟨l, vs, c, rfl, rfl, hi⟩
    intro q hq p hp
    rw [List.mem_singleton.mp hp]
    exact Nat.ne_of_lt (hlt q hq)
end
noncomputable section
def wordL (n : Nat) : List Nat := (figs n).map (64 + ·)
theorem wordL_len (k n : Nat) (h : n < 64 ^ k) : (wordL n).length ≤ k := by
  rw [wordL, List.length_map]; exact figs_len k n h
theorem flatten_one (f : Nat → Nat) : ∀ l : List Nat, (l.map fun n => [f n]).flatten = l.map f
  | [] => rfl
  | a :: r => by rw [List.map_cons, List.flatten_cons, flatten_one f r]; rfl
theorem word_fn : ∀ (w : World) (number : Nat) (hN : number < 64 ^ 11) (u : Tok) (news : List (Addr × Obj)),
    Fn w 2 198 [.int number u] [] news (fun v tl => ∃ u, v = .str (so (wordL number)) u ∧ tl = []) := by
  intro w number hN u news
  intro p loose mean mg mb dp un gd cn cs L a ccd cl outer A₀ base g m s h t Q E C S hd hu hret
  refine' call_fn [(Str.ofString "number", Value.int number u)] C S ?k6 ?k7 ?k8 ?k9 ?kB ?c2 ?c3 ?c4 ?c5 ?_
  case k6 => k_is
  case k7 => k_is
  case k8 => omega
  case k9 => exact BindsTo.of_eq rfl
  case kB => exact locs rfl
  case c2 => exact rfl
  case c3 => exact rfl
  case c4 => exact rfl
  case c5 => decide
  intro g' L' h' t' S' C' hlt G
  walk_at "W"
  refine' e_comp (fun _ => true) (FI fun n => so [64 + n.toNat]) (closureFor_none (by decide)) (by decide) rfl (by decide) rfl (fun _ => rfl) ?_
  walk_at "W"
  refine figures_fn w number hN _ _ C' S' (by walk_at "RM") (by walk_at "RM") ?_
  rintro _ _ h₁ t₁ S₁ hk₁ hne ⟨l, vs, c, rfl, rfl, hi⟩
  have hsz := IntsAre.sizeA hi
  have hfl := figs_len 11 number hN
  refine comp_list rfl S₁ (S₁.isList (.head _)) (by rw [sizeLine_eq]; omega) (fun C i v s' h₂ t₂ mC E' hv S₂ hn hm => wpAny_tests_nil ⟨rfl, h₂, t₂, rfl, fun _ _ e => e⟩) (fun C i v s' h₂ t₂ mC E' hv _ S₂ hn hm => ?_) ?_
  · obtain ⟨n, tn, rfl, hn'⟩ := ints_at hi hv
    have hlt64 := figs_lt number n (List.mem_of_getElem? hn')
    walk_at "W"
    refine c_chr (64 + n) (by omega) (by omega) fun u t' => ⟨fun n' t' e => ?_, h₂, t', rfl, fun _ _ e => e⟩
    obtain ⟨rfl, rfl⟩ := Value.int.inj e
    exact ⟨_, rfl⟩
  · intro D h₂ t₂ ys n S₂ hneD hk₂ hp
    rw [filter_tt] at hp
    have hs := strs_paired hi hp
    walk_at "W"
    have e : (iz (figs number)).map (fun n => so [64 + n.toNat]) = ((figs number).map fun n => [64 + n]).map so := by
      simp [iz, List.map_map, Function.comp_def]
    rw [e] at hs
    refine c_join S₂ (.head _) hs (by rw [flatten_one, List.length_map]; omega) fun u t' => ?_
    rw [flatten_one]
    refine leave_r S₂ fun S₃ => hret _ [] h₂ _ (S₃.sub fun p hp => .tail _ (.tail _ hp)) (keep_of S G S₂ fun p hp => .tail _ (.tail _ hp)) (fun _ _ _ hp => by cases hp) ⟨_, rfl, rfl⟩
end
noncomputable section
def kindOfFig (f : Nat) : Nat := if 33 ≤ f ∧ f ≤ 58 then f - 32 else f
def kindL (n : Nat) : List Nat := (figs n).map kindOfFig
theorem kind_fn : ∀ (w : World) (number : Nat) (hN : number < 64 ^ 11) (u : Tok) (news : List (Addr × Obj)),
    Fn w 2 203 [.int number u] [] news (fun v tl => ∃ l vs c, v = .ref l ∧ tl = [(l, W.listOf vs c)] ∧ IntsAre vs.toList (iz (kindL number))) := by
  intro w number hN u news
  intro p loose mean mg mb dp un gd cn cs L a ccd cl outer A₀ base g m s h t Q E C S hd hu hret
  refine' call_fn [(Str.ofString "number", Value.int number u)] C S ?k6 ?k7 ?k8 ?k9 ?kB ?c2 ?c3 ?c4 ?c5 ?_
  case k6 => k_is
  case k7 => k_is
  case k8 => omega
  case k9 => exact BindsTo.of_eq rfl
  case kB => exact locs rfl
  case c2 => exact rfl
  case c3 => exact rfl
  case c4 => exact rfl
  case c5 => decide
  intro g' L' h' t' S' C' hlt G
  walk_at "W"
  refine' e_comp (fun _ => true) (GI fun n => (kindOfFig n.toNat : Nat)) (closureFor_none (by decide)) (by decide) rfl (by decide) rfl (fun _ => rfl) ?_
  walk_at "W"
  refine figures_fn w number hN _ _ C' S' (by walk_at "RM") (by walk_at "RM") ?_
  rintro _ _ h₁ t₁ S₁ hk₁ hne ⟨l, vs, c, rfl, rfl, hi⟩
  have hsz := IntsAre.sizeA hi
  have hfl := figs_len 11 number hN
  refine comp_list rfl S₁ (S₁.isList (.head _)) (by rw [sizeLine_eq]; omega) (fun C i v s' h₂ t₂ mC E' hv S₂ hn hm => wpAny_tests_nil ⟨rfl, h₂, t₂, rfl, fun _ _ e => e⟩) (fun C i v s' h₂ t₁ mC E' hv _ S₂ hn hm => ?_) ?_
  · obtain ⟨n, tn, rfl, hn'⟩ := ints_at hi hv
    have hlt64 := figs_lt number n (List.mem_of_getElem? hn')
    walk_at "W"
    have fin : ∀ (i : Int) (u' : Tok) t', i = (kindOfFig n : Nat) → GI (fun n => (kindOfFig n.toNat : Nat)) (.int (n : Int) tn) (.int i u') ∧ Keeps (sh s' h₂ t₁) (sh s' h₂ t') := fun i u' t' e => ⟨fun n' t'' e' => by
      obtain ⟨rfl, rfl⟩ := Value.int.inj e'
      exact ⟨u', by rw [e]; rfl⟩, h₂, t', rfl, fun _ _ e => e⟩
    refine ⟨fun hb => ?_, fun hb => ?_⟩
    · have hb' : 33 ≤ n := by have := of_decide_eq_true hb; omega
      walk_at "W"
      refine ⟨fun hc => ?_, fun hc => ?_⟩
      · have hc' : n ≤ 58 := by have := of_decide_eq_true hc; omega
        walk_at "W"
        refine fin _ _ _ ?_
        rw [kindOfFig, if_pos ⟨hb', hc'⟩]; omega
      · have hc' : ¬ n ≤ 58 := by have := of_decide_eq_false hc; omega
        walk_at "W"
        refine fin _ _ _ ?_
        rw [kindOfFig, if_neg (by omega)]
    · have hb' : ¬ 33 ≤ n := by have := of_decide_eq_false hb; omega
      refine ⟨(fun hc => by cases hc), fun _ => ?_⟩
      walk_at "W"
      refine fin _ _ _ ?_
      rw [kindOfFig, if_neg (by omega)]
  · intro D h₂ t₂ ys n S₂ hneD hk₂ hp
    rw [filter_tt] at hp
    have hs := ints_paired hi hp
    walk_at "W"
    have e : (iz (figs number)).map (fun n => ((kindOfFig n.toNat : Nat) : Int)) = iz (kindL number) := by
      simp [iz, kindL, List.map_map, Function.comp_def]
    rw [e] at hs
    refine leave_r S₂ fun S₃ => hret _ [(D, W.listOf ys n)] h₂ _ (S₃.sub ?_) (keep_of S G S₂ fun p hp => .tail _ (.tail _ hp)) ?_ ⟨_, _, _, rfl, rfl, hs⟩
    · rintro p (_ | ⟨_, hp⟩)
      · exact .head _
      · exact .tail _ (.tail _ hp)
    · intro q hq p hp
      rw [List.mem_singleton.mp hp]
      exact hneD q (.tail _ hq)
end
noncomputable section
def textL (ns : List Nat) : List Nat := (ns.map fun n => wordL (n / 64) ++ [n % 64]).flatten
theorem flat_len {α : Type} (f : α → List Nat) (k : Nat) : ∀ l : List α, (∀ a ∈ l, (f a).length ≤ k) → (l.map f).flatten.length ≤ k * l.length
  | [], _ => by simp
  | a :: r, h => by
    have h1 := h a (.head _)
    have h2 := flat_len f k r fun b hb => h b (.tail _ hb)
    rw [List.map_cons, List.flatten_cons, List.length_append, List.length_cons, Nat.mul_succ]
    omega
theorem textL_len (ns : List Nat) (hb : ∀ n ∈ ns, n < 64 ^ 12) : (textL ns).length ≤ 12 * ns.length := by
  refine flat_len _ 12 ns fun n hn => ?_
  have := hb n hn
  have := wordL_len 11 (n / 64) (by omega)
  simp; omega
theorem text_fn : ∀ (w : World) (ns : List Nat) (hlen : ns.length ≤ 1000) (hb : ∀ n ∈ ns, n < 64 ^ 12) (l : Addr) (news : List (Addr × Obj)) (hl : IL news l ns),
    Fn w 3 215 [.ref l] [] news (fun v tl => ∃ u, v = .str (so (textL ns)) u ∧ tl = []) := by
  intro w ns hlen hb l news hl
  obtain ⟨vs, c, hm, hi⟩ := hl
  intro p loose mean mg mb dp un gd cn cs L a ccd cl outer A₀ base g m s h t Q E C S hd hu hret
  refine' call_fn [(Str.ofString "numbers", Value.ref l)] C S ?k6 ?k7 ?k8 ?k9 ?kB ?c2 ?c3 ?c4 ?c5 ?_
  case k6 => k_is
  case k7 => k_is
  case k8 => omega
  case k9 => exact BindsTo.of_eq rfl
  case kB => exact locs rfl
  case c2 => exact rfl
  case c3 => exact rfl
  case c4 => exact rfl
  case c5 => decide
  intro g' L' h' t' S' C' hlt G
  have hsz := IntsAre.sizeA hi
  walk_at "W"
  refine' e_comp (fun _ => true) (FI fun n => so (wordL (n.toNat / 64) ++ [n.toNat % 64])) (closureFor_none (by decide)) (by decide) rfl (by decide) rfl (fun _ => rfl) ?_
  walk_at "W"
  refine comp_list rfl S' (S'.isList hm) (by rw [sizeLine_eq]; omega) (fun C i v s' h₂ t₂ mC E' hv S₂ hn hm => wpAny_tests_nil ⟨rfl, h₂, t₂, rfl, fun _ _ e => e⟩) (fun C i v s' h₂ t₁ mC E' hv _ S₂ hn hm' => ?_) ?_
  · obtain ⟨n, tn, rfl, hn'⟩ := ints_at hi hv
    have hb' := hb n (List.mem_of_getElem? hn')
    walk_at "W"
    rw [show (n : Int).fdiv 64 = ((n / 64 : Nat) : Int) from fdivN n 64]
    refine word_fn w (n / 64) (by omega) _ _ C' S₂ (by walk_at "RM") (by walk_at "RM") ?_
    rintro _ _ h₃ t₃ S₃ hk₃ hne ⟨u₁, rfl, rfl⟩
    have hn := hn.keeps hk₃
    walk_at "W"
    rw [show (n : Int).fmod 64 = ((n % 64 : Nat) : Int) from fmodN n 64]
    refine c_chr (n % 64) rfl (by omega) fun u t' => ?_
    have := wordL_len 11 (n / 64) (by omega)
    refine o_adds (by simp; rw [sizeLine_eq]; omega) fun u t' => ⟨fun n' t'' e => ?_, h₃, t', rfl, hk₃⟩
    obtain ⟨rfl, rfl⟩ := Value.int.inj e
    exact ⟨u, rfl⟩
  · intro D h₂ t₂ ys n S₂ hneD hk₂ hp
    rw [filter_tt] at hp
    have hs := strs_paired hi hp
    walk_at "W"
    have e : (iz ns).map (fun n => so (wordL (n.toNat / 64) ++ [n.toNat % 64])) = (ns.map fun n => wordL (n / 64) ++ [n % 64]).map so := by
      simp [iz, List.map_map, Function.comp_def]
    rw [e] at hs
    have := textL_len ns hb
    refine c_join S₂ (.head _) hs (by unfold textL at this; omega) fun u t' => ?_
    exact leave_r S₂ fun S₃ => hret _ [] h₂ _ (S₃.sub fun p hp => .tail _ hp) (keep_of S G S₂ fun p hp => .tail _ hp) (fun _ _ _ hp => by cases hp) ⟨_, rfl, rfl⟩
end
noncomputable section
def toldStep (told f : Nat) : Nat := if f = 28 then (told * 64 + f) * 64 + 28 else told * 64 + f
def toldOf (n : Nat) : Nat := (figs n).foldl toldStep 0
def partL (word marks : Nat) : List Nat :=
  if marks > 0 then [2797, 61, 34, (toldOf word * 64 + 28) * 64 + 34] ++ List.replicate (marks - 1) 1826 ++ [34]
  else if word > 0 then [2797, 61, 34, toldOf word * 64 + 34] else [2797]
def JP (word marks : Nat) (news : List (Addr × Obj)) (i : Nat) (m₁ : Str → Option Value) (n₁ : List (Addr × Obj)) : Prop :=
  n₁ = news ∧ ∃ u u₁ u₂, m₁ (Str.ofString "told") = some (.int (((figs word).take i).foldl toldStep 0 : Nat) u) ∧ m₁ (Str.ofString "word") = some (.int word u₁) ∧ m₁ (Str.ofString "marks") = some (.int marks u₂)
theorem part_fn : ∀ (w : World) (word marks : Nat) (hW : word < 64 ^ 2) (hM : marks ≤ 2) (u u' : Tok) (news : List (Addr × Obj)),
    Fn w 2 210 [.int word u, .int marks u'] [] news (fun v tl => ∃ l, v = .ref l ∧ IL tl l (partL word marks)) := by
  intro w word marks hW hM u u' news
  intro p loose mean mg mb dp un gd cn cs L a ccd cl outer A₀ base g m s h t Q E C S hd hu hret
  refine' call_fn [(Str.ofString "word", Value.int word u), (Str.ofString "marks", Value.int marks u')] C S ?k6 ?k7 ?k8 ?k9 ?kB ?c2 ?c3 ?c4 ?c5 ?_
  case k6 => k_is
  case k7 => k_is
  case k8 => omega
  case k9 => exact BindsTo.of_eq rfl
  case kB => exact locs rfl
  case c2 => exact rfl
  case c3 => exact rfl
  case c4 => exact rfl
  case c5 => decide
  intro g' L' h' t' S' C' hlt G
  walk_at "W"
  rename_i t₁ h₁ t₁' S₁
  refine figures_fn w word (by omega) _ _ C' S₁ (by walk_at "RM") (by walk_at "RM") ?_
  rintro _ _ h₂ t₂ S₂ hk₂ hne ⟨l, vs, c, rfl, rfl, hi⟩
  have hsz := IntsAre.sizeA hi
  refine for_list rfl rfl tgt_name S₂ (JP word marks _) ⟨rfl, _, _, _, rfl, rfl, rfl⟩ (fun i m₁ n₁ h₁ hJ S => S.isList (vs := vs) (n := c) (by rw [hJ.1]; exact .head _)) ?_ ?_ (by passes_own)
  · rintro i v m₁ n₁ h₃ t₃ I oI hv ⟨rfl, u₁, u₂, u₃, e₁, e₂, e₃⟩ hI S₃
    obtain ⟨f, tf, rfl, hf⟩ := ints_at hi hv
    walk_at "W"
    rename_i h₄ t₄ S₄ ua ta ub tb uc tc h₅ t₅ S₅ ud td
    have step : ((figs word).take (i + 1)).foldl toldStep 0 = toldStep (((figs word).take i).foldl toldStep 0) f := by
      rw [List.take_add_one, hf]; simp
    refine ⟨fun hb => ?_, fun hb => ?_⟩
    · have hb' : f = 28 := by have := eq_of_beq hb; omega
      walk_at "W"
      rename_i h₆ t₆ S₆
      refine turn_next _ S₆ (.head _) (fun p hp => .tail _ hp) hI ⟨rfl, ?tk, u₂, u₃, ?eq, e₂, e₃⟩
      case eq => refine vint_eq ?_; rw [step, toldStep, if_pos hb']; omega
    · have hb' : f ≠ 28 := by have := ne_of_beq_false hb; omega
      walk_at "W"
      refine turn_next _ S₅ (.head _) (fun p hp => .tail _ hp) hI ⟨rfl, ?tk2, u₂, u₃, ?eq2, e₂, e₃⟩
      case eq2 => refine vint_eq ?_; rw [step, toldStep, if_neg hb']; omega
  · rintro m₁ n₁ h₃ t₃ ⟨rfl, u₁, u₂, u₃, e₁, e₂, e₃⟩ S₃
    rw [hsz, List.take_length] at e₁
    change m₁ (Str.ofString "told") = some (.int (toldOf word : Nat) u₁) at e₁
    walk_at "W"
    have hsub : ∀ p ∈ news, p ∈ (l, W.listOf vs c) :: news := fun p hp => .tail _ hp
    refine ⟨fun hb => ?_, fun hb => ?_⟩
    · have hb' : 0 < marks := by have := of_decide_eq_true hb; omega
      walk_at "W"
      rename_i l₄ h₄ hl₄ S₄ ua ta l₅ h₅ hl₅ S₅ ub tb uc tc
      refine o_mulL (marks - 1) S₅ (.head _) (by omega) (by omega) (by simp) rfl fun l₆ h₆ hl₆ S₆ => ?_
      have hrep : (List.foldl (fun x1 x2 => x1 ++ x2) #[] (List.replicate (marks - 1) [Value.int 1826 ua].toArray)).toList = List.replicate (marks - 1) (Value.int 1826 ua) := by
        rcases (show marks = 1 ∨ marks = 2 by omega) with rfl | rfl <;> rfl
      have hrs : (List.foldl (fun x1 x2 => x1 ++ x2) #[] (List.replicate (marks - 1) [Value.int 1826 ua].toArray)).size ≤ 1 := by
        rw [← Array.length_toList, hrep, List.length_replicate]; omega
      walk_at "W"
      rename_i a₁ g₁ ha₁ S₇ ud td l₇ h₇ hl₇ S₈ a₂ g₂ ha₂ S₉
      refine leave_new S G S₉ (fun p hp => .tail _ (.tail _ (.tail _ (.tail _ (.tail _ (.tail _ hp)))))) (fun q hq => Nat.ne_of_lt (ha₂ q (.tail _ (.tail _ (.tail _ (.tail _ (.tail _ (.tail _ hq)))))))) hret ⟨a₂, rfl, _, 0, .head _, ?_⟩
      · rw [partL, if_pos hb', iz_append, iz_append]
        simp only [List.toList_toArray, hrep]
        refine IntsAre.append (IntsAre.append ?_ ?_) (.cons _ _ .nil)
        · refine .cons _ _ (.cons _ _ (.cons _ _ ?_))
          rw [show (((toldOf word : Nat) : Int) * 64 + 28) * 64 + 34 = (((toldOf word * 64 + 28) * 64 + 34 : Nat) : Int) by omega]
          exact .cons _ _ .nil
        · rcases (show marks = 1 ∨ marks = 2 by omega) with rfl | rfl
          · exact .nil
          · exact .cons _ _ .nil
    · have hb' : marks = 0 := by have := of_decide_eq_false hb; omega
      walk_at "W"
      refine ⟨fun hc => ?_, fun hc => ?_⟩
      · have hc' : 0 < word := by have := of_decide_eq_true hc; omega
        walk_at "W"
        rename_i l₄ h₄ hl₄ S₄
        refine leave_new S G S₄ (fun p hp => .tail _ hp) (fun q hq => Nat.ne_of_lt (hl₄ q (.tail _ hq))) hret ⟨l₄, rfl, _, 0, .head _, ?_⟩
        · rw [partL, if_neg (by omega), if_pos hc']
          refine .cons _ _ (.cons _ _ (.cons _ _ ?_))
          rw [show ((toldOf word : Nat) : Int) * 64 + 34 = ((toldOf word * 64 + 34 : Nat) : Int) by omega]
          exact .cons _ _ .nil
      · have hc' : word = 0 := by have := of_decide_eq_false hc; omega
        walk_at "W"
        rename_i l₄ h₄ hl₄ S₄
        refine leave_new S G S₄ (fun p hp => .tail _ hp) (fun q hq => Nat.ne_of_lt (hl₄ q (.tail _ hq))) hret ⟨l₄, rfl, _, 0, .head _, ?_⟩
        · rw [partL, if_neg (by omega), if_neg (by omega)]
          exact .cons _ _ .nil
end
noncomputable section
section
variable {prog : Program} {w : World} {A : Around} {E : Value → Shared → Prop} {s : Shared} {h : Heap} {t : Nat} {g : Heap} {L : Addr} {m : Str → Option Value} {news : List (Addr × Obj)} {env : Env}
  {pos : Pos} {Q : Value → Shared → Prop} {R : Bool → Shared → Prop}

/-! one object of the ledger turns -/
theorem St.turn {I : Addr} {o o' : Obj} {h' : Heap} (S : St g L m ((I, o) :: news) h) (hn : ∀ p ∈ news, p.1 ≠ I) (hs : Heap.SameBut I h h') (ho : h'.get? I = some o') : St g L m ((I, o') :: news) h' := by
  obtain ⟨h1, h2, h3⟩ := S.N (I, o) (.head _)
  have S' := (S.sub fun p hp => .tail _ hp : St g L m news h).off (h' := h') h2 h3 hn fun b ob hb e => (hs.2 b hb).trans e
  exact ⟨S'.F, fun p hp => by
    rcases List.mem_cons.mp hp with rfl | hp
    · exact ⟨ho, h2, h3⟩
    · exact S'.N p hp⟩

/-! list iterators -/
abbrev itO (l : Addr) (i : Nat) : Obj := { cls := .type "list_iterator", data := .fields #[.ref l, .int i 0] }
theorem itO_is {I l : Addr} {i : Nat} (ho : h.get? I = some (itO l i)) : h.IsListIter I l i := ⟨_, ho, rfl, rfl⟩
theorem c_iter {l : Addr} {vs : Array Value} (S : St g L m news h) (hl : h.IsList l vs) (hq : ∀ I h', (∀ p ∈ news, p.1 < I) → St g L m ((I, itO l 0) :: news) h' → Q (.ref I) (sh s h' t)) :
    wpAny (model prog w) A (call (.builtin "iter") [.ref l]) Q E (sh s h t) := by
  refine call_function_entry (by decide +kernel) (by decide +kernel) kdk_entry_iter (kdk_args_iter _) ?_
  unfold Builtin.«iter»
  refine wpAny_bind (m := someArgs "iter" 1 2 _) (wpAny_of_eq (a := [Value.ref l]) (by first | rfl | kernel_rfl!) ?_)
  show wpAny _ _ (pyIter (.ref l) >>= _) _ _ _
  refine wpAny_bind (wpAny_pyIter_list hl ?_)
  exact wpAny_pure ⟨_, rfl, hq _ _ S.lt (S.push rfl)⟩
theorem c_next_item {I l : Addr} {i : Nat} {vs : Array Value} {x : Value} (S : St g L m ((I, itO l i) :: news) h) (hl : h.IsList l vs) (hx : vs[i]? = some x) (hI : ∀ p ∈ news, p.1 ≠ I)
    (hq : ∀ h', St g L m ((I, itO l (i + 1)) :: news) h' → Q x (sh s h' t)) : wpAny (model prog w) A (call (.builtin "next") [.ref I]) Q E (sh s h t) := by
  have ho := (S.N _ (.head _)).1
  have hit : Heap.IsListIter (sh s h t).heap I l i := itO_is ho
  obtain ⟨ol, hol, _, nl, hdl⟩ := hl
  refine call_function_entry (by decide +kernel) (by decide +kernel) kdk_entry_next (kdk_args_next _) ?_
  unfold Builtin.«next»
  refine wpAny_bind (m := someArgs "next" 1 2 _) (wpAny_of_eq (a := [Value.ref I]) (by first | rfl | kernel_rfl!) ?_)
  dsimp only
  refine wpAny_bind (wpAny_specialOf (name := Str.ofString "__next__") hit.typeIs slot_listiter_next.lookup ?_)
  refine wpAny_ite_split (fun hab => absurd hab (by decide)) (fun _ => ?_)
  refine wpAny_bind (wpAny_callSpecial?_slot (name := Str.ofString "__next__") hit.typeIs slot_listiter_next (wpAny_call_entry slot_listiter_next hit.typeIs entry_listiter_next ?_ (args_listiter_next _)))
  show wpAny _ _ (field (.ref I) 0 >>= _) _ _ _
  refine wpAny_bind (wpAny_field ho rfl (x := .ref l) rfl ?_)
  show wpAny _ _ (if (Value.ref l == Value.none) = true then _ else _) _ _ _
  rw [if_neg (show ¬ ((Value.ref l == Value.none) = true) from Bool.false_ne_true)]
  show wpAny _ _ (field (.ref I) 1 >>= _) _ _ _
  refine wpAny_bind (wpAny_field ho rfl (x := .int i 0) rfl ?_)
  show wpAny _ _ (seqItems? (.ref l) >>= _) _ _ _
  refine wpAny_bind (wpAny_seqItems hol hdl ?_)
  simp only [Int.toNat_natCast, hx]
  refine wpAny_bind (wpAny_setField ho rfl (by simp) (wpAny_pure ⟨x, rfl, wpAny_pure ⟨_, rfl, hq _ (S.turn hI (Heap.SameBut.update ..) ?_)⟩⟩))
  rw [Heap.get?_update_self _ ho rfl]
  rfl
theorem c_next_end {I l : Addr} {i : Nat} {vs : Array Value} (hh : A.handled = none) (S : St g L m ((I, itO l i) :: news) h) (hl : h.IsList l vs) (hx : vs[i]? = none) (hI : ∀ p ∈ news, p.1 ≠ I)
    (hE : ∀ h₁ h' e o', St g L m ((I, o') :: news) h₁ → Heap.NewExc h₁ h' e "StopIteration" → E (.ref e) (sh s h' t)) : wpAny (model prog w) A (call (.builtin "next") [.ref I]) Q E (sh s h t) := by
  have ho := (S.N _ (.head _)).1
  have hit : Heap.IsListIter (sh s h t).heap I l i := itO_is ho
  obtain ⟨ol, hol, _, nl, hdl⟩ := hl
  refine call_function_entry (by decide +kernel) (by decide +kernel) kdk_entry_next (kdk_args_next _) ?_
  unfold Builtin.«next»
  refine wpAny_bind (m := someArgs "next" 1 2 _) (wpAny_of_eq (a := [Value.ref I]) (by first | rfl | kernel_rfl!) ?_)
  dsimp only
  refine wpAny_bind (wpAny_specialOf (name := Str.ofString "__next__") hit.typeIs slot_listiter_next.lookup ?_)
  refine wpAny_ite_split (fun hab => absurd hab (by decide)) (fun _ => ?_)
  refine wpAny_bind (wpAny_callSpecial?_slot (name := Str.ofString "__next__") hit.typeIs slot_listiter_next (wpAny_call_entry slot_listiter_next hit.typeIs entry_listiter_next ?_ (args_listiter_next _)))
  show wpAny _ _ (field (.ref I) 0 >>= _) _ _ _
  refine wpAny_bind (wpAny_field ho rfl (x := .ref l) rfl ?_)
  show wpAny _ _ (if (Value.ref l == Value.none) = true then _ else _) _ _ _
  rw [if_neg (show ¬ ((Value.ref l == Value.none) = true) from Bool.false_ne_true)]
  show wpAny _ _ (field (.ref I) 1 >>= _) _ _ _
  refine wpAny_bind (wpAny_field ho rfl (x := .int i 0) rfl ?_)
  show wpAny _ _ (seqItems? (.ref l) >>= _) _ _ _
  refine wpAny_bind (wpAny_seqItems hol hdl ?_)
  simp only [Int.toNat_natCast, hx]
  refine wpAny_bind (wpAny_rule (wpAny_bind (wpAny_setField ho rfl (by simp) ?_)))
  show wpAny _ _ (newExc (.type "StopIteration") [] >>= _) _ _ _
  refine wpAny_bind ?_
  simp only [newExc, newTuple]
  refine wpAny_bind (wpAny_newObj_type ?_ (by size_fits))
  refine wpAny_bind (m := firstArgMember _ _) (wpAny_of_eq (a := Value.none) (by first | rfl | (simp only [firstArgMember]; rfl)) ?_)
  refine wpAny_newObj_type ?_ (by size_fits)
  simp only [raiseNew]
  refine wpAny_bind (wpAny_handled ?_)
  rw [show A.in1.in1.handled = none from hh]
  refine wpAny_bind (wpAny_pure (wpAny_throw ?_))
  refine hE _ _ _ _ (S.turn hI (Heap.SameBut.update ..) (Heap.get?_update_self _ ho rfl)) ⟨fun b o e => Heap.get?_push_of_some _ (Heap.get?_push_of_some _ e), Heap.get?_none_of_le (by simp), _, _, Heap.get?_push_size _ rfl, rfl, rfl⟩
end
end
noncomputable section
section
variable {prog : Program} {w : World} {A : Around} {E : Value → Shared → Prop} {s : Shared} {h : Heap} {t : Nat} {g : Heap} {L : Addr} {m : Str → Option Value} {news : List (Addr × Obj)} {env : Env}
  {cn : Str} {cs : Scope} {a : Addr} {ccd : Value} {cl : List (Str × Addr)}
variable {dp un : Nat} {gd : Option (List Code)} {outer : List Env} {A₀ : Around} {base : Heap} {p : Program} {loose : List Str} {mean : ExcName → Option Value} {mg mb : Str → Option Value}

/-! exceptions -/
theorem memX {name : Str} {scope : Scope} {L a b : Addr} {cd : Value} {cl : List (Str × Addr)} {outer : List Env} (hm : b ∈ (envX name scope L a cd cl :: outer).filterMap (·.frame)) : b = L ∨ b ∈ outer.filterMap (·.frame) := by
  obtain ⟨env, he, hf⟩ := List.mem_filterMap.mp hm
  rcases List.mem_cons.mp he with rfl | he
  · exact .inl (Option.some.inj hf).symm
  · exact .inr (List.mem_filterMap.mpr ⟨env, he, hf⟩)
theorem xl_new {M : Model} {cls : String} {e : Addr} {h₁ : Heap} {Q : Unit → Shared → Prop} (K : Below A base outer g) (hx : Heap.NewExc h₁ h e cls) (S : St g L m news h₁) (hk : cs.kind = .function)
    (hQ : ∀ h', RaisedSN base g outer e (.type cls) news h' → g.UpToSlots h' → Q () (sh s h' t)) :
    wpAny M (A.deeper (envX cn cs L a ccd cl)) (leaving (envX cn cs L a ccd cl) (.ref e)) Q E (sh s h t) := by
  have F := S.F
  have N := S.N
  have K' := pushX (env := envX cn cs L a ccd cl) K F rfl hk
  have hin : ∀ env ∈ (envX cn cs L a ccd cl :: outer), ∀ b, env.frame = some b → b ∈ (envX cn cs L a ccd cl :: outer).filterMap (·.frame) := fun env he b hb => List.mem_filterMap.mpr ⟨env, he, hb⟩
  have st : base.StaysIn (hideAll h₁ ((envX cn cs L a ccd cl :: outer).filterMap (·.frame))) := fun b o q => hideAll_get _ (K'.stays b o q) fun hm => by
    rw [(K'.frames.mem hm).1] at q; cases q
  have sg : ∀ b o, g.get? b = some o → b ∉ outer.filterMap (·.frame) → (hideAll h₁ ((envX cn cs L a ccd cl :: outer).filterMap (·.frame))).get? b = some o := fun b o q nm => hideAll_get _ (F.keep b o q) fun hm => by
    rcases memX hm with z | z
    · rw [z, kts_self F] at q
      cases q
    · exact nm z
  have hl : ∀ q ∈ news, (hideAll h₁ ((envX cn cs L a ccd cl :: outer).filterMap (·.frame))).get? q.1 = some q.2 ∧ g.get? q.1 = none ∧ base.get? q.1 = none := fun q hq => by
    refine ⟨hideAll_get _ (N q hq).1 fun hm => ?_, (N q hq).2.2, fresh_of_stays K.stays (N q hq).2.2⟩
    obtain ⟨env, he, hf⟩ := List.mem_filterMap.mp hm
    rcases List.mem_cons.mp he with rfl | he
    · exact (N q hq).2.1 (Option.some.inj hf).symm
    · obtain ⟨o, ho, _⟩ := (K.frames.mem (List.mem_filterMap.mpr ⟨env, he, hf⟩)).2
      rw [(N q hq).2.2] at ho; cases ho
  obtain ⟨ob, tp, he, hcls, hd⟩ := hx.there
  have hen : (hideAll h₁ ((envX cn cs L a ccd cl :: outer).filterMap (·.frame))).get? e = none := by
    cases q : (hideAll h₁ ((envX cn cs L a ccd cl :: outer).filterMap (·.frame))).get? e with
    | none => rfl
    | some o => have := of_hideAll _ q; rw [hx.new] at this; cases this
  refine wpAny_leaving_firstW (a0 := tp) K'.stack ((funFrames_hide K'.frames hin).of_keeps fun b o hb _ => ⟨o, hx.keeps b o hb, rfl⟩) rfl he (fun b o hb => hx.keeps b o (of_hideAll _ hb)) hen hd rfl rfl fun h' hL => ?_
  obtain ⟨k1, ⟨_, _, k2⟩, k3, k4⟩ := hL
  exact hQ h' ⟨_, tp, st, sg, hl, k1, hen, k2, by rw [← hcls]; exact k3⟩ (((Heap.UpToSlots.of_keeps F.keep).trans (Heap.UpToSlots.of_keeps hx.keeps)).trans k4)
theorem xl_on {M : Model} {cls : Value} {e : Addr} {g₂ : Heap} {Q : Unit → Shared → Prop} (K : Below A base outer g) (F : Fr g L g₂ m) (R : RaisedSN base g₂ (envX cn cs L a ccd cl :: outer) e cls news h) (hsm : g₂.UpToSlots h)
    (hQ : ∀ h', RaisedSN base g outer e cls news h' → g.UpToSlots h' → Q () (sh s h' t)) :
    wpAny M (A.deeper (envX cn cs L a ccd cl)) (leaving (envX cn cs L a ccd cl) (.ref e)) Q E (sh s h t) := by
  obtain ⟨B, a0, hB, hBG, hl, hfl⟩ := R
  exact wpAny_leaves_onW (Around.frames_deeper K.stack) rfl hfl fun h' x1 x2 =>
    hQ h' ⟨B, a0, hB, fun b o q nm => hBG b o (F.keep b o q) (fun hm => by
      rcases memX hm with z | z
      · rw [z, kts_self F] at q
        cases q
      · exact nm z), fun q hq => ⟨(hl q hq).1, kts_none F.keep (hl q hq).2.1, (hl q hq).2.2⟩, x1⟩ ((Heap.UpToSlots.of_keeps F.keep).trans (hsm.trans x2))

section
variable {name qual : Str} {params : Arguments} {body : List Stmt} {scope : Scope} {dV kV doc pm cdv ct oc : Value} {an od : Option Addr} {osl : Array (Option Value)} {f : Addr} {pos : List Value} {kw : List (Str × Value)} {Q : Value → Shared → Prop}
theorem call_fn2 (binds : List (Str × Value)) (C : Cx w p loose mean mg mb cs outer A₀ base g) (S : St g L m news h)
    (ho : (hd.heap_39 w.params).lookup f = some ⟨oc, od, .func (fnOf name qual params body scope dV kV doc pm an cdv ct), osl⟩) (hcd : codeIn (hd.heap_39 w.params) cdv qual = true) (hroom : dp < recursionLimit)
    (hbind : BindsTo (sh s h t) (fnOf name qual params body scope dV kV doc pm an cdv ct) ⟨pos, kw⟩ binds) (hloc : ∀ y ∈ binds, scope.names.lookup y.1 = some .local)
    (hco : scope.isCoroutine = false) (hgen : scope.isGenerator = false) (hkf : scope.kind = .function) (hcell : ∀ x ∈ scope.names, x.2 ≠ .cell)
    (hq : ∀ g' L' h' t', Fr g L g' m → St g' L' (lk binds) news h' → Cx w p loose mean mg mb scope (envX cn cs L a ccd cl :: outer) (ktrTop dp un gd cn cs L a ccd cl outer) base g' → (∀ p ∈ news, p.1 < L') → GSub h g' (news.map (·.1)) →
      wpAny (model prog w) (ktrTop (dp + 1) (un + 3) gd qual scope L' f cdv [] (envX cn cs L a ccd cl :: outer)) (execs body (envX qual scope L' f cdv []))
        (Lv g L m g' Q) (fun e s' => wpAny (model prog w) (ktrTop (dp + 1) (un + 3) gd qual scope L' f cdv [] (envX cn cs L a ccd cl :: outer)) (leaving (envX qual scope L' f cdv []) e) (fun _ s'' => E e s'') (fun e' s'' => E e' s'') s') (sh s h' t')) :
    wpAny (model prog w) (ktrTop dp un gd cn cs L a ccd cl outer) (call (.ref f) pos kw) Q E (sh s h t) := by
  have X' := C.X.keeps S.F.keep
  refine wpAny_call ?_
  obtain ⟨FG, BG, st, lv⟩ := groundX (s := sh s h t) (A := ktrTop dp un gd cn cs L a ccd cl outer) (env := envX cn cs L a ccd cl) (R := fun r s' => match r with | .ok (.ret v) => Q v s' | .ok _ => False | .error e => E e s') C.B S.F S.N rfl rfl C.hk
  refine codeAny_call_def (fd := fnX name qual params body scope [] dV kV doc pm an cdv ct) (body := body) (binds := binds) hroom (X' _ _ ho) rfl (C.T.nolimit.keeps S.F.keep) (codeRec_of X' hcd) rfl hbind hcell hloc (fun h₁ hns hk₁ => ?_) hco hgen hkf
  refine wpAny_mono (hq _ h.objs.size h₁ _ FG ⟨⟨hns, fun b o e => hk₁ b o (of_hideAll _ e), Nat.le_of_eq (hideAll_size _ _)⟩, fun p hp => ⟨hk₁ _ _ (S.N p hp).1, Nat.ne_of_lt (Heap.lt_size (S.N p hp).1), hideAll_none _ (List.mem_map_of_mem hp)⟩⟩
    ⟨BG, C.X.keeps st, C.T.keeps st, hkf⟩ S.lt (fun b o e n => hideAll_get _ e n)) (fun fl s' q => ?_) fun _ _ x => x
  obtain ⟨L₂, m₂, news₂, S₂, k⟩ := q
  exact lv _ _ ⟨L₂, m₂, news₂, S₂.F, S₂.N, fun F₃ N₃ => k ⟨F₃, N₃⟩⟩
/-- a def with cells -/
theorem call_fnC (binds : List (Str × Value)) (C : Cx w p loose mean mg mb cs outer A₀ base g) (S : St g L m news h)
    (ho : (hd.heap_39 w.params).lookup f = some ⟨oc, od, .func (fnOf name qual params body scope dV kV doc pm an cdv ct), osl⟩) (hcd : codeIn (hd.heap_39 w.params) cdv qual = true) (hroom : dp < recursionLimit)
    (hbind : BindsTo (sh s h t) (fnOf name qual params body scope dV kV doc pm an cdv ct) ⟨pos, kw⟩ binds) (hkind : (binds.all fun y => scope.names.lookup y.1 == some .local || scope.names.lookup y.1 == some .cell) = true)
    (hco : scope.isCoroutine = false) (hgen : scope.isGenerator = false) (hkf : scope.kind = .function) (hnd : ((cellsFrom 0 scope.names []).map (·.1)).Nodup)
    (hq : ∀ g' L' h' t' cells, Fr g L g' m → St g' L' (bindL (envOfC qual scope L' f cdv).kindOf binds fun _ => none) (cells ++ news) h' → CellsAre (bindC (envOfC qual scope L' f cdv).kindOf binds fun _ => none) (cellsFrom (L' + 1) scope.names []) cells →
      Cx w p loose mean mg mb scope (envX cn cs L a ccd cl :: outer) (ktrTop dp un gd cn cs L a ccd cl outer) base g' → (∀ p ∈ news, p.1 < L') →
      wpAny (model prog w) (ktrTop (dp + 1) (un + 3) gd qual scope L' f cdv (cellsFrom (L' + 1) scope.names []) (envX cn cs L a ccd cl :: outer)) (execs body (envX qual scope L' f cdv (cellsFrom (L' + 1) scope.names [])))
        (Lv g L m g' Q) (fun e s' => wpAny (model prog w) (ktrTop (dp + 1) (un + 3) gd qual scope L' f cdv (cellsFrom (L' + 1) scope.names []) (envX cn cs L a ccd cl :: outer)) (leaving (envX qual scope L' f cdv (cellsFrom (L' + 1) scope.names [])) e) (fun _ s'' => E e s'') (fun e' s'' => E e' s'') s') (sh s h' t')) :
    wpAny (model prog w) (ktrTop dp un gd cn cs L a ccd cl outer) (call (.ref f) pos kw) Q E (sh s h t) := by
  have X' := C.X.keeps S.F.keep
  refine wpAny_call (callX_cells (s := sh s h t) (R := fun r s' => match r with | .ok (.ret v) => Q v s' | .ok _ => False | .error e => E e s') C.B S.F S.N C.T.nolimit rfl rfl C.hk (X' _ _ ho) rfl (codeRec_of X' hcd) hroom hbind (kindsX hkind) hnd
    (fun g' L' h₁ tk cells FG F' N' Y B' st l => ?_) hco hgen hkf)
  refine wpAny_mono (hq g' L' h₁ tk cells FG ⟨F', N'⟩ Y ⟨B', C.X.keeps st, C.T.keeps st, hkf⟩ l) (fun fl s' q => ?_) fun _ _ x => x
  obtain ⟨L₂, m₂, news₂, S₂, k⟩ := q
  exact ⟨L₂, m₂, news₂, S₂.F, S₂.N, fun F₃ N₃ => k ⟨F₃, N₃⟩⟩
/-- a helper of the law's own, which may catch what its callees raise -/
def LvS (fs : List Addr) (g₀ : Heap) (L₀ : Addr) (m₀ : Str → Option Value) (g : Heap) (Q : Value → Shared → Prop) (f : Flow) (s' : Shared) : Prop :=
  ∃ g' L' m' news', KtsTurn fs g g' ∧ St g' L' m' news' s'.heap ∧ (St g₀ L₀ m₀ news' s'.heap → Q (match f with | .ret v => v | _ => .none) s')
theorem call_fnS (binds : List (Str × Value)) (C : Cx w p loose mean mg mb cs [] A₀ g g) (S : St g L m news h)
    (ho : (hd.heap_39 w.params).lookup f = some ⟨oc, od, .func (fnOf name qual params body scope dV kV doc pm an cdv ct), osl⟩) (hcd : codeIn (hd.heap_39 w.params) cdv qual = true) (hroom : dp < recursionLimit)
    (hbind : BindsTo (sh s h t) (fnOf name qual params body scope dV kV doc pm an cdv ct) ⟨pos, kw⟩ binds) (hloc : ∀ y ∈ binds, scope.names.lookup y.1 = some .local)
    (hco : scope.isCoroutine = false) (hgen : scope.isGenerator = false) (hkf : scope.kind = .function) (hcell : ∀ x ∈ scope.names, x.2 ≠ .cell)
    (hq : ∀ g' L' h' t', Fr g L g' m → St g' L' (lk binds) news h' → Cx w p loose mean mg mb scope [envX cn cs L a ccd cl] (ktrTop dp un gd cn cs L a ccd cl []) g g' → (∀ p ∈ news, p.1 < L') → KtsDicts ([envX cn cs L a ccd cl].filterMap (·.frame)) g' →
      wpAny (model prog w) (ktrTop (dp + 1) (un + 3) gd qual scope L' f cdv [] [envX cn cs L a ccd cl]) (execs body (envX qual scope L' f cdv []))
        (LvS ([envX cn cs L a ccd cl].filterMap (·.frame)) g L m g' Q) (fun e s' => wpAny (model prog w) (ktrTop (dp + 1) (un + 3) gd qual scope L' f cdv [] [envX cn cs L a ccd cl]) (leaving (envX qual scope L' f cdv []) e) (fun _ s'' => E e s'') (fun e' s'' => E e' s'') s') (sh s h' t')) :
    wpAny (model prog w) (ktrTop dp un gd cn cs L a ccd cl []) (call (.ref f) pos kw) Q E (sh s h t) := by
  have X' := C.X.keeps S.F.keep
  refine wpAny_call ?_
  obtain ⟨FG, BG, st, lv⟩ := groundX (s := sh s h t) (A := ktrTop dp un gd cn cs L a ccd cl []) (env := envX cn cs L a ccd cl) (R := fun r s' => match r with | .ok (.ret v) => Q v s' | .ok _ => False | .error e => E e s') C.B S.F S.N rfl rfl C.hk
  refine codeAny_call_def (fd := fnX name qual params body scope [] dV kV doc pm an cdv ct) (body := body) (binds := binds) hroom (X' _ _ ho) rfl (C.T.nolimit.keeps S.F.keep) (codeRec_of X' hcd) rfl hbind hcell hloc (fun h₁ hns hk₁ => ?_) hco hgen hkf
  obtain ⟨oL, es, ep, hL, hLd, hLk, hLf⟩ := S.F.ns
  have nL : L ∉ news.map (·.1) := fun q => by
    obtain ⟨p, hp, e⟩ := List.mem_map.mp q
    exact (S.N p hp).2.1 e
  have hLg := hideAll_get (news.map (·.1)) hL nL
  have nL₀ : g.get? L = none := kts_self S.F
  refine wpAny_mono (hq _ h.objs.size h₁ _ FG ⟨⟨hns, fun b o e => hk₁ b o (of_hideAll _ e), Nat.le_of_eq (hideAll_size _ _)⟩, fun p hp => ⟨hk₁ _ _ (S.N p hp).1, Nat.ne_of_lt (Heap.lt_size (S.N p hp).1), hideAll_none _ (List.mem_map_of_mem hp)⟩⟩
    ⟨BG, C.X.keeps st, C.T.keeps st, hkf⟩ S.lt (fun b hb => by
      rcases memX hb with rfl | z
      · exact ⟨oL, es, ep, hLg, hLd⟩
      · simp at z)) (fun fl s' q => ?_) fun _ _ x => x
  obtain ⟨g', L₂, m₂, news₂, T', S₂, k⟩ := q
  obtain ⟨sl, hs⟩ := T'.up hLg
  exact k ⟨⟨⟨_, es, ep, S₂.F.keep _ _ hs, hLd, hLk, hLf⟩, fun b o e => S₂.F.keep b o (T'.other b o (st b o e) (fun q => by
      rcases memX q with z | z
      · rw [z, nL₀] at e
        cases e
      · simp at z)), S.F.above⟩, fun p hp => ⟨(S₂.N p hp).1, fun q => (by have := (S₂.N p hp).2.2; rw [q, hs] at this; cases this), (by
        cases q : g.get? p.1 with
        | none => rfl
        | some o =>
          obtain ⟨sl', hs'⟩ := T'.up (st _ _ q)
          have := (S₂.N p hp).2.2
          rw [hs'] at this
          cases this)⟩⟩
end

/-- what a def of the text yields, or raises -/
def FnR (w : World) (k : Nat) (f : Addr) (args : List Value) (kw : List (Str × Value)) (X : String) (news : List (Addr × Obj)) (post : Value → List (Addr × Obj) → Prop) (epost : List (Addr × Obj) → Prop) : Prop :=
  ∀ {p : Program} {loose : List Str} {mean : ExcName → Option Value} {mg mb : Str → Option Value} {dp un : Nat} {gd : Option (List Code)} {cn : Str} {cs : Scope} {L a : Addr} {ccd : Value} {cl : List (Str × Addr)} {outer : List Env} {A₀ : Around} {base g : Heap} {m : Str → Option Value} {s : Shared} {h : Heap} {t : Nat} {Q E : Value → Shared → Prop},
    Cx w p loose mean mg mb cs outer A₀ base g → St g L m news h → dp + k < recursionLimit → un + 4 * k < cLine →
    (∀ v news' h' t', St g L m news' h' → post v news' → Q v (sh s h' t')) →
    (∀ e g₁ news' h' t', Fr g L g₁ m → RaisedSN base g₁ (envX cn cs L a ccd cl :: outer) e (.type X) news' h' → g₁.UpToSlots h' → epost news' → E (.ref e) (sh s h' t')) →
    wpAny (model PySem.Challenge.rw_pm0042_01.row.prog w) (ktrTop dp un gd cn cs L a ccd cl outer) (call (.ref f) args kw) Q E (sh s h t)

/-! try in a helper -/
def EH (M : Model) (A : Around) (env : Env) (hs : List ExceptHandler) (Q : Flow → Shared → Prop) (E : Value → Shared → Prop) (e : Value) (s₁ : Shared) : Prop :=
  wpAny M A (noteFrame e env) (fun _ s₂ => wpAny M A (setFlight e none) (fun _ s₃ => wpAny M A (handleBy e env hs) Q E s₃) E s₂) E s₁
theorem x_try {body orelse : List Stmt} {h₀ : ExceptHandler} {hs : List ExceptHandler} {pos : Pos} {rest : List Stmt} {Q : Flow → Shared → Prop}
    (hq : wpAny (model prog w) A (execs body env) (fun f s₁ => match f with | .next => wpAny (model prog w) A (execs orelse env) (fun f s' => match f with | .next => wpAny (model prog w) A (execs rest env) Q E s' | f => Q f s') E s₁ | f => Q f s₁)
      (EH (model prog w) A env (h₀ :: hs) (fun f s' => match f with | .next => wpAny (model prog w) A (execs rest env) Q E s' | f => Q f s') E) s) :
    wpAny (model prog w) A (execs (.Try body (h₀ :: hs) orelse [] pos :: rest) env) Q E s := by
  refine wpAny_execs_cons (wpAny_Try_except (wpAny_mono hq (fun f s₁ q => ?_) fun e s₁ q => q))
  cases f <;> exact q
theorem caught {name : Str} {scope : Scope} {L a e : Addr} {cd : Value} {outer : List Env} {A₀ : Around} {base g G : Heap} {m : Str → Option Value} {news : List (Addr × Obj)} {x : Str} {X T' : String} {b₀ : Stmt} {suite : List Stmt} {pos np : Pos} {Q : Flow → Shared → Prop}
    (C : Cx w p loose mean mg mb scope outer A₀ base g) (XB : (hd.heap_39 w.params).In base) (TB : Top p loose mean mg mb base) (D : KtsDicts (outer.filterMap (·.frame)) g)
    (F : Fr g L G m) (R : RaisedSN base G (envX name scope L a cd [] :: outer) e (.type X) news h) (hsm : G.UpToSlots h)
    (ex : nsIn (hd.heap_39 w.params) mainGlobals x = some none) (hv : bootBuiltins x = some (.type T')) (hn' : x ≠ "__name__")
    (hexc : isSubtype (.type T') (.type "BaseException") = pure true) (hnt : isSubtype (.type ((Manifest.find? T').elim "type" fun y => y.metatype)) (.type "tuple") = pure false) (hsub : isSubtype (.type X) (.type T') = pure true)
    (hx : (envX name scope L a cd []).kindOf x = some .globalImplicit) (hd : (x == ("__debug__" : Str)) = false)
    (hE : PassesOwnAt (model prog w) ((A₀.deeper (envX name scope L a cd [])).mark (some (.ref e))) (A₀.deeper (envX name scope L a cd [])) (envX name scope L a cd []) E)
    (k : ∀ h' g', KtsTurn (outer.filterMap (·.frame)) g g' → St g' L m news h' →
      wpAny (model prog w) ((A₀.deeper (envX name scope L a cd [])).mark (some (.ref e))) (execs (b₀ :: suite) (envX name scope L a cd [])) Q E (sh s h' t)) :
    EH (model prog w) (A₀.deeper (envX name scope L a cd [])) (envX name scope L a cd []) [.ExceptHandler (some (.Name x np)) none (b₀ :: suite) pos] Q E (.ref e) (sh s h t) :=
  caught_SN0 (s' := sh s h t) R F C.B hsm XB TB D KtsTurn.refl ex hv hn' hexc hnt hsub (fun h' g' T' F' N' _ _ _ _ => k h' g' T' ⟨F', N'⟩) C.hk hx hd hE
end
end
noncomputable section
section
variable {prog : Program} {w : World} {A : Around} {E : Value → Shared → Prop} {s : Shared} {h : Heap} {t : Nat} {g : Heap} {L : Addr} {m : Str → Option Value} {news : List (Addr × Obj)} {env : Env}
  {cn : Str} {cs : Scope} {a : Addr} {ccd : Value} {cl : List (Str × Addr)} {i j : Int} {u v : Tok} {Q : Value → Shared → Prop}
theorem x_aug {x : Str} {px : Pos} {op : Operator} {e : Expr} {pos : Pos} {rest : List Stmt} {Q : Flow → Shared → Prop} {v : Value} (S : St g L m news h) (hv : m x = some v)
    (hk : cs.kind = .function) (hx : (envX cn cs L a ccd cl).kindOf x = some .local)
    (hq : wpAny (model prog w) A (eval e (envX cn cs L a ccd cl)) (fun y s₁ => wpAny (model prog w) A (inplaceOp op v y) (fun r s₂ => wpAny (model prog w) A (storeName (envX cn cs L a ccd cl) x r) (fun _ s₃ => wpAny (model prog w) A (execs rest (envX cn cs L a ccd cl)) Q E s₃) E s₂) E s₁) E (sh s h t)) :
    wpAny (model prog w) A (execs (.AugAssign (.Name x px) op e pos :: rest) (envX cn cs L a ccd cl)) Q E (sh s h t) :=
  wpAny_execs_cons (wpAny_AugAssign_Name (wpAny_loadName_local (env := envX cn cs L a ccd cl) hk hx S.F.ns hv hq))
theorem o_ishl {n : Int} (hn : 0 ≤ n) (hn2 : n ≤ 1000000) (ha : i.natAbs < 2 ^ 64) (hq : ∀ u t', Q (.int (i * 2 ^ n.toNat) u) (sh s h t')) : wpAny (model prog w) A (inplaceOp .LShift (.int i u) (.int n v)) Q E (sh s h t) := PyProof.Rows.ilshift_int_small (s := sh s h t) hn hn2 ha (hq _ _)
theorem o_ior (hq : ∀ u t', Q (.int (Builtin.bitOr i j) u) (sh s h t')) : wpAny (model prog w) A (inplaceOp .BitOr (.int i u) (.int j v)) Q E (sh s h t) := PyProof.Rows.ior_int (s := sh s h t) (hq _ _)
theorem o_iadd (hq : ∀ u t', Q (.int (i + j) u) (sh s h t')) : wpAny (model prog w) A (inplaceOp .Add (.int i u) (.int j v)) Q E (sh s h t) := PyProof.Rows.iadd_int (s := sh s h t) (hq _ _)
theorem truthy_i {R : Bool → Shared → Prop} (hq : R (i != 0) (sh s h t)) : wpAny (model prog w) A (truthy (.int i u)) R E (sh s h t) := PyProof.Rows.truthy_int (s := sh s h t) hq
end
theorem and63 (x : Nat) : Builtin.bitAnd (x : Int) 63 = ((x % 64 : Nat) : Int) := by rw [bitAnd_m6]; omega
theorem and64 : ∀ x : Nat, x < 128 → Builtin.bitAnd (x : Int) 64 = ((x / 64 * 64 : Nat) : Int) := by
  have : ∀ x : Fin 128, Builtin.bitAnd (x.val : Int) 64 = ((x.val / 64 * 64 : Nat) : Int) := by decide +kernel
  intro x hx
  exact this ⟨x, hx⟩
theorem or_nat (x y : Nat) : Builtin.bitOr (x : Int) (y : Int) = ((x ||| y : Nat) : Int) := by
  unfold Builtin.bitOr
  have n1 : ∀ x : Nat, Builtin.bitNot (x : Int) < 0 := fun x => by show -(x : Int) - 1 < 0; omega
  unfold Builtin.bitAnd
  rw [decide_eq_false (by have := n1 x; omega), decide_eq_false (by have := n1 y; omega)]
  show Builtin.bitNot (Builtin.bitNot (((Builtin.bitNot (Builtin.bitNot (x : Int))).toNat ||| (Builtin.bitNot (Builtin.bitNot (y : Int))).toNat : Nat) : Int)) = _
  have e : ∀ z : Int, Builtin.bitNot (Builtin.bitNot z) = z := fun z => by show -(-z - 1) - 1 = z; omega
  rw [e, e, e, Int.toNat_natCast, Int.toNat_natCast]
theorem or_low (a c : Nat) (hc : c < 64) : a * 64 ||| c = a * 64 + c := by
  have := Nat.shiftLeft_add_eq_or_of_lt (i := 6) (b := c) hc a
  rw [Nat.shiftLeft_eq] at this
  exact this.symm
end
local macro_rules | `(tactic| walk_at "W1") => `(tactic| first
  | ((with_reducible refine' x_aug ?S ?hv ?hk ?hx ?_); (case S => assumption); (case hk | hx => exact rfl); (case hv => first | exact rfl | assumption))
  | ((with_reducible refine' o_ior ?_); intro _ _)
  | ((with_reducible refine' o_iadd ?_); intro _ _)
  | (with_reducible refine' truthy_i ?_)
  | fail)
noncomputable section
section
variable {prog : Program} {w : World} {A : Around} {E : Value → Shared → Prop} {s : Shared} {h : Heap} {t : Nat} {g : Heap} {L : Addr} {m : Str → Option Value} {news : List (Addr × Obj)} {env : Env}
  {cn : Str} {cs : Scope} {a : Addr} {ccd : Value} {cl : List (Str × Addr)} {i j : Int} {u v : Tok} {Q : Value → Shared → Prop}
theorem x_expr {M : Model} {e : Expr} {pos : Pos} {rest : List Stmt} {Q : Flow → Shared → Prop} (hi : interactive env = false) (hs : swapsWith e none pos.line env = pure false)
    (hq : wpAny M A (eval e env) (fun v s' => match v with | .ref _ => False | _ => wpAny M A (execs rest env) Q E s') E s) : wpAny M A (execs (.Expr e pos :: rest) env) Q E s :=
  wpAny_execs_cons (wpAny_Expr (wpAny_mono hq (fun v s' q => by cases v <;> exact q) fun _ _ x => x) hi hs)
theorem c_append {l : Addr} {vs : Array Value} {n : Nat} {x : Value} (S : St g L m ((l, W.listOf vs n) :: news) h) (hl : ∀ p ∈ news, p.1 ≠ l) (hsz : vs.size ≤ sizeLine)
    (hq : ∀ h' n', St g L m ((l, W.listOf (vs.push x) n') :: news) h' → Q .none (sh s h' t)) : wpAny (model prog w) A (call (.builtin "list.append") [.ref l, x]) Q E (sh s h t) :=
  wpAny_list_append_plain (s := sh s h t) ⟨n, (S.N _ (.head _)).1⟩ (fun h' hp hs => by obtain ⟨n', hp⟩ := hp; exact hq h' n' (S.turn hl hs hp)) hsz
theorem c_len {l : Addr} {vs : Array Value} {n : Nat} (S : St g L m news h) (hm : (l, W.listOf vs n) ∈ news) (hsz : vs.size ≤ sizeLine)
    (hq : ∀ u t', Q (.int (vs.size : Nat) u) (sh s h t')) : wpAny (model prog w) A (call (.builtin "len") [.ref l]) Q E (sh s h t) :=
  call_len_list (s := sh s h t) (S.isList hm) (by have : sizeLine < 2 ^ 60 := by decide
                                                  omega) (hq _ _)
abbrev rgO (n : Int) (t₁ t₂ t₃ : Tok) : Obj := { cls := .type "range", data := .fields #[.int 0 t₁, .int n t₂, .int 1 t₃] }
theorem c_range {n : Int} {u : Tok} (S : St g L m news h) (hq : ∀ r h' t' t₁ t₂ t₃, (∀ p ∈ news, p.1 < r) → St g L m ((r, rgO n t₁ t₂ t₃) :: news) h' → Q (.ref r) (sh s h' t')) :
    wpAny (model prog w) A (call (.type "range") [.int n u]) Q E (sh s h t) := call_range_1 (s := sh s h t) (hq _ _ _ _ _ _ S.lt (S.push rfl))
theorem for_range {x : Str} {px : Pos} {body rest : List Stmt} {r : Addr} {n : Nat} {t₁ t₂ t₃ : Tok} {Q : Flow → Shared → Prop} (hh : A.handled = none) (hL : env.locals = L) (hn : n < 2 ^ 40)
    (S : St g L m news h) (hr : (r, rgO n t₁ t₂ t₃) ∈ news) (J : Nat → (Str → Option Value) → List (Addr × Obj) → Prop) (h0 : J 0 m news)
    (turn : ∀ i u m₁ news₁ h₁ t₁ I oI, i < n → J i m₁ news₁ → (∀ p ∈ news₁, p.1 ≠ I) → St g L m₁ ((I, oI) :: news₁) h₁ →
      wpAny (model prog w) A (assign (.Name x px) env (.int (i : Nat) u)) (fun _ s₂ => wpAny (model prog w) A (execs body env) (TurnEnd s g L I (I, oI) (J (i + 1)) Q) E s₂) E (sh s h₁ t₁))
    (done : ∀ m₁ news₁ h₁ t₁, J n m₁ news₁ → St g L m₁ news₁ h₁ → wpAny (model prog w) A (execs rest env) Q E (sh s h₁ t₁))
    (hE : PassesOwn (model prog w) A env E) :
    wpAny (model prog w) A (pyIter (.ref r)) (ForAt (model prog w) A env (.Name x px) body rest Q E) E (sh s h t) := by
  subst hL
  have hrs : Builtin.Range.rangeSize 0 (n : Int) 1 = n := by rw [rangeSize_one]; split <;> omega
  refine wpAny_pyIter_range (s := sh s h t) (S.N _ hr).1 (small_one (by omega) (by omega) (by omega) (by omega)) ?_
  rw [hrs]
  have hIL : h.objs.size ≠ env.locals := Ne.symm (Nat.ne_of_lt S.Llt)
  have hIg : g.get? h.objs.size = none := S.freshAt (Nat.le_refl _)
  have hIn : ∀ p ∈ news, p.1 ≠ h.objs.size := fun p hp => Nat.ne_of_lt (S.lt p hp)
  have S₀ : St g env.locals m news (h.push { cls := .type "range_iterator", data := .fields #[rawInt 0, rawInt (n : Int), rawInt 1] }) := (S.push (o := { cls := .type "range_iterator", data := .fields #[rawInt 0, rawInt (n : Int), rawInt 1] }) rfl).sub fun p hp => .tail _ hp
  refine codeAny_forLoop_any
    (fun k s' => ∃ h' t' m' news' i, s' = sh s h' t' ∧ IsRangeIter h' h.objs.size ((i : Nat) : Int) ((n : Int) - (i : Nat)) 1 ∧ St g env.locals m' news' h' ∧ (∀ p ∈ news', p.1 ≠ h.objs.size) ∧ J i m' news' ∧ i ≤ n ∧ k = n + 1 - i) ?_ (n + 1)
    ⟨_, t, m, news, 0, rfl, (by show IsRangeIter _ _ _ _ _; simpa using Heap.get?_push_size _ rfl), S₀, hIn, h0, Nat.zero_le _, rfl⟩
  rintro k s' ⟨h', t', m', news', i, rfl, hit, S', hn', hJ, hi, rfl⟩
  by_cases hlt : i < n
  · refine wpAny_pyNext_range_item (s := sh s h' t') hit (by omega) fun h₁ hit₁ hs₁ => ?_
    have S₁ := S'.off (h' := h₁) hIL hIg hn' fun b o hb e => (hs₁.2 b hb).trans e
    have S₂ : St g env.locals m' ((h.objs.size, _) :: news') h₁ := ⟨S₁.F, fun p hp => by
      rcases List.mem_cons.mp hp with rfl | hp
      · exact ⟨hit₁, hIL, hIg⟩
      · exact S₁.N p hp⟩
    refine wpAny_pure ?_
    refine wpAny_passesOwn hE (wpAny_mono (turn i t' m' news' h₁ (t' + 1) h.objs.size _ hlt hJ hn' S₂) (fun _ s₂ h₂ => wpAny_passesOwn hE (wpAny_mono h₂ (fun f s₃ h₃ => ?_) fun _ _ e => e)) fun _ _ e => e)
    rcases h₃ with ⟨rfl, h₃', t₃, m₂, news₂, all, rfl, S₃, hia, hsa, hoa, hJ₃⟩ | ⟨v, rfl, hq⟩
    · refine ⟨n + 1 - (i + 1), by omega, h₃', t₃, m₂, news₂, i + 1, rfl, ?_, S₃.sub hsa, hoa, hJ₃, hlt, rfl⟩
      have := (S₃.N _ hia).1
      show IsRangeIter _ _ _ _ _
      rw [show (((i + 1 : Nat)) : Int) = (i : Int) + 1 by omega, show (n : Int) - ((i : Int) + 1) = (n : Int) - (i : Nat) - 1 by omega]
      exact this
    · exact hq
  · have hsz : i = n := by omega
    subst hsz
    refine wpAny_pyNext_range_end (s := sh s h' t') hh hit (by omega) fun h₁ he₁ => wpAny_execs_nil ?_
    exact done m' news' h₁ t' hJ (S'.off hIL hIg hn' fun b o hb e => he₁ b o hb e)
theorem cw_T {M : Model} {T : String} {e : Expr} {rest : List Expr} {pos : Pos} (he : starEach (e :: rest) env = (false, eval e env) :: starEach rest env) (hplain : (backTo pos (starEach rest env)).any (·.1) = false)
    (hq : wpAny M A (spliced (backTo pos (starEach (e :: rest) env))) (fun vs s₁ => wpAny M A (call (.type T) vs) Q E s₁) E s) :
    wpAny M A (callWith pos (.type T) [] (backTo pos (starEach (e :: rest) env)) []) Q E s := PyProof.Rows.callWith_type1 hq he hplain
/-- a helper of the law's own -/
def FnS (w : World) (k : Nat) (f : Addr) (args : List Value) (kw : List (Str × Value)) (news : List (Addr × Obj)) (post : Value → List (Addr × Obj) → Prop) : Prop :=
  ∀ {p : Program} {loose : List Str} {mean : ExcName → Option Value} {mg mb : Str → Option Value} {dp un : Nat} {gd : Option (List Code)} {cn : Str} {cs : Scope} {L a : Addr} {ccd : Value} {cl : List (Str × Addr)} {A₀ : Around} {g : Heap} {m : Str → Option Value} {s : Shared} {h : Heap} {t : Nat} {Q E : Value → Shared → Prop},
    Cx w p loose mean mg mb cs [] A₀ g g → St g L m news h → dp + k < recursionLimit → un + 4 * k < cLine →
    (∀ v news' h' t', St g L m news' h' → post v news' → Q v (sh s h' t')) →
    wpAny (model PySem.Challenge.rw_pm0042_01.row.prog w) (ktrTop dp un gd cn cs L a ccd cl []) (call (.ref f) args kw) Q E (sh s h t)
end
end
local macro_rules | `(tactic| walk_at "W1") => `(tactic| first
  | ((with_reducible refine' x_expr ?hi ?hs ?_); (case hi | hs => exact rfl))
  | ((with_reducible refine' cw_T ?he ?hp ?_); (case he | hp => exact rfl))
  | fail)
local macro_rules | `(tactic| walk_at "V") => `(tactic| repeat' ((first | walk_at "W1" | walk_at "W8") <;> (try (show PySem.wpAny _ _ _ _ _ _))))
noncomputable section
def oct (n : Nat) : List Nat := (figs (n / 64)).map (64 + ·) ++ [n % 64]
def fv (l : List Nat) : Nat := l.foldl (fun a o => a * 64 + o % 64) 0
theorem fv_snoc (l : List Nat) (o : Nat) : fv (l ++ [o]) = fv l * 64 + o % 64 := by simp [fv]
theorem fv_lt' : ∀ (l : List Nat) (a : Nat), l.foldl (fun a o => a * 64 + o % 64) a < (a + 1) * 64 ^ l.length
  | [], a => by simp
  | o :: r, a => by
    refine Nat.lt_of_lt_of_le (fv_lt' r _) ?_
    rw [List.length_cons, Nat.pow_succ, ← Nat.mul_assoc, Nat.mul_right_comm]
    exact Nat.mul_le_mul_right _ (by show a * 64 + o % 64 + 1 ≤ (a + 1) * 64; have := Nat.mod_lt o (y := 64) (by decide); omega)
theorem fv_lt (l : List Nat) : fv l < 64 ^ l.length := by simpa [fv] using fv_lt' l 0
theorem fv_figs (n : Nat) : fv ((figs n).map (64 + ·)) = n := by
  induction n using Nat.strongRecOn with
  | ind n ih =>
    by_cases h0 : n = 0
    · subst h0; simp [figs_zero, fv]
    · rw [figs_pos (by omega), List.map_append, List.map_singleton, fv_snoc, ih _ (by omega)]; omega
theorem fv_oct (n : Nat) : fv (oct n) = n := by rw [oct, fv_snoc, fv_figs]; omega
theorem oct_len (n : Nat) : 0 < (oct n).length := by simp [oct]
theorem oct_lt (n : Nat) : ∀ o ∈ oct n, o < 128 := by
  intro o ho
  rcases List.mem_append.mp ho with ho | ho
  · obtain ⟨d, hd, rfl⟩ := List.mem_map.mp ho
    have := figs_lt _ d hd; omega
  · have := List.mem_singleton.mp ho; omega
theorem oct_hi (n j o : Nat) (ho : (oct n)[j]? = some o) : (j + 1 < (oct n).length → 64 ≤ o) ∧ (j + 1 = (oct n).length → o < 64) := by
  have hl : (oct n).length = (figs (n / 64)).length + 1 := by simp [oct]
  constructor
  · intro hj
    rw [oct, List.getElem?_append_left (by simp; omega)] at ho
    have := List.mem_of_getElem? ho
    obtain ⟨d, hd, rfl⟩ := List.mem_map.mp this
    omega
  · intro hj
    rw [oct, List.getElem?_append_right (by simp; omega)] at ho
    have := List.mem_of_getElem? ho
    have := List.mem_singleton.mp this; omega
theorem oct_len_le (n : Nat) (hn : n < 64 ^ 10) : (oct n).length ≤ 10 := by
  have := figs_len 9 (n / 64) (by rw [show (64:Nat) ^ 10 = 64 ^ 9 * 64 from rfl] at hn; omega)
  simp [oct]; omega

def JV (I l : Addr) (i : Nat) (fs : List Nat) (news : List (Addr × Obj)) (k : Nat) (m₁ : Str → Option Value) (n₁ : List (Addr × Obj)) : Prop :=
  ∃ j b, j < fs.length ∧ k = fs.length - (j + 1) ∧ fs[j]? = some b ∧ n₁ = (I, itO l (i + j + 1)) :: news ∧ ∃ u u', m₁ (Str.ofString "b") = some (.int (b : Nat) u) ∧ m₁ (Str.ofString "val") = some (.int (fv (fs.take (j + 1)) : Nat) u') ∧ m₁ (Str.ofString "iterator") = some (.ref I)
theorem varint_ok : ∀ (w : World) (I l : Addr) (vs : Array Value) (c i n : Nat) (os : List Nat) (news : List (Addr × Obj)) (hn : n < 64 ^ 10) (hm : (l, W.listOf vs c) ∈ news) (hI : ∀ p ∈ news, p.1 ≠ I)
    (hi : IntsAre vs.toList (iz os)) (hd : ∃ r, os.drop i = oct n ++ r),
    FnR w 1 38 [.ref I] [] "StopIteration" ((I, itO l i) :: news) (fun v news' => ∃ u, v = .int (n : Nat) u ∧ news' = (I, itO l (i + (oct n).length)) :: news) (fun _ => False) := by
  intro w I l vs c i n os news hn hm hI hi hos
  obtain ⟨rr, hos⟩ := hos
  intro p loose mean mg mb dp un gd cn cs L a ccd cl outer A₀ base g m s h t Q E C S hd hu hret hraise
  have at_ : ∀ j b, (oct n)[j]? = some b → ∃ u, vs[i + j]? = some (.int (b : Nat) u) := fun j b hb => by
    have : os[i + j]? = some b := by
      rw [← List.getElem?_drop, hos, List.getElem?_append_left (List.getElem?_eq_some_iff.mp hb).1]; exact hb
    have hz := IntsAre.sizeA hi
    have hlt : i + j < vs.size := by rw [hz]; exact (List.getElem?_eq_some_iff.mp this).1
    obtain ⟨f, tf, e1, e2⟩ := ints_at hi (Array.getElem?_eq_getElem hlt)
    rw [this] at e2
    cases e2
    exact ⟨tf, by rw [Array.getElem?_eq_getElem hlt, e1]⟩
  refine' call_fn2 [(Str.ofString "iterator", Value.ref I)] C S ?k6 ?k7 ?k8 ?k9 ?kB ?c2 ?c3 ?c4 ?c5 ?_
  case k6 => k_is
  case k7 => k_is
  case k8 => omega
  case k9 => exact BindsTo.of_eq rfl
  case kB => exact locs rfl
  case c2 => exact rfl
  case c3 => exact rfl
  case c4 => exact rfl
  case c5 => decide
  intro g' L' h' t' FG S' C' hlt G
  walk_at "W"
  obtain ⟨b, hb⟩ : ∃ b, (oct n)[0]? = some b := ⟨_, List.getElem?_eq_getElem (oct_len n)⟩
  obtain ⟨u₀, hv₀⟩ := at_ 0 b hb
  refine c_next_item S' (S'.isList (.tail _ hm)) hv₀ hI fun h₁ S₁ => ?_
  walk_at "W"
  rename_i h₂ t₂ S₂ u₁ t₃ u₂ t₄ h₃ t₅ S₃
  refine' x_while (JV I l i (oct n) news) ((oct n).length - 1) S₃ ⟨0, b, oct_len n, rfl, hb, rfl, u₀, _, rfl, ?hval, rfl⟩ ?_ (by passes_own)
  case hval =>
    refine vint_eq ?_
    rw [and63, show (oct n).take (0 + 1) = [b] by
      rw [List.take_add_one, hb]; rfl]
    simp [fv]
  rintro k m₁ n₁ h₁ t₁ S₄ ⟨j, b, hj, rfl, hb, rfl, u, u', e1, e2, e3⟩
  have hb128 : b < 128 := oct_lt n b (List.mem_of_getElem? hb)
  obtain ⟨hhi, hlo⟩ := oct_hi n j b hb
  walk_at "W"
  rename_i u₅ t₅ u₆ t₆
  rw [and64 b hb128]
  refine ⟨fun hc => ?_, fun hc => ?_⟩
  · have hc' : 64 ≤ b := by
      by_cases q : 64 ≤ b
      · exact q
      · have : b / 64 = 0 := by omega
        rw [this] at hc; simp at hc
    have hj' : j + 1 < (oct n).length := by
      by_cases q : j + 1 < (oct n).length
      · exact q
      · have := hlo (by omega); omega
    obtain ⟨b', hb'⟩ : ∃ b, (oct n)[j + 1]? = some b := ⟨_, List.getElem?_eq_getElem hj'⟩
    obtain ⟨u₀', hv'⟩ := at_ (j + 1) b' hb'
    have hlen := oct_len_le n hn
    have hfv : fv ((oct n).take (j + 1)) < 64 ^ 10 := Nat.lt_of_lt_of_le (fv_lt _) (Nat.pow_le_pow_right (by decide) (Nat.le_trans (List.length_take_le ..) (by omega)))
    walk_at "W"
    refine o_ishl (by decide) (by decide) ?_ fun _ _ => ?_
    · rw [Int.natAbs_natCast]; exact Nat.lt_of_lt_of_le hfv (by decide)
    walk_at "W"
    rename_i S₆
    refine c_next_item S₆ (S₆.isList (.tail _ hm)) hv' hI fun h₇ S₇ => ?_
    walk_at "W"
    rename_i h₈ t₈ S₈ u₉ t₉ u₁₀ t₁₀ u₁₁ t₁₁ h₁₂ t₁₂ S₁₂
    refine ⟨rfl, h₁₂, t₁₂, _, _, (oct n).length - (j + 1 + 1), rfl, S₁₂, by omega, j + 1, b', hj', rfl, hb', rfl, u₀', u₁₁, rfl, ?hval2, ?hit⟩
    case hval2 =>
      refine vint_eq ?_
      rw [and63, show ((fv ((oct n).take (j + 1)) : Nat) : Int) * 2 ^ (6 : Int).toNat = ((fv ((oct n).take (j + 1)) * 64 : Nat) : Int) by rw [Int.natCast_mul]; rfl, or_nat, or_low _ _ (Nat.mod_lt _ (by decide)),
        show (oct n).take (j + 1 + 1) = (oct n).take (j + 1) ++ [b'] by rw [List.take_add_one, hb']; rfl, fv_snoc]
    case hit => exact e3
  · have hc' : b < 64 := by
      by_cases q : b < 64
      · exact q
      · have : b / 64 = 1 := by omega
        rw [this] at hc; simp at hc
    have hj' : j + 1 = (oct n).length := by
      by_cases q : j + 1 < (oct n).length
      · have := hhi q; omega
      · omega
    walk_at "W"
    refine leave_r S₄ fun S₅ => hret _ _ _ _ S₅ ⟨u', ?_, by rw [← hj', Nat.add_assoc]⟩
    rw [hj', List.take_length, fv_oct]
theorem varint_end : ∀ (w : World) (I l : Addr) (vs : Array Value) (c i : Nat) (os : List Nat) (news : List (Addr × Obj)) (hm : (l, W.listOf vs c) ∈ news) (hI : ∀ p ∈ news, p.1 ≠ I)
    (hi : IntsAre vs.toList (iz os)) (hd : os.drop i = [97]),
    FnR w 1 38 [.ref I] [] "StopIteration" ((I, itO l i) :: news) (fun _ _ => False) (fun news' => ∃ o, news' = (I, o) :: news) := by
  intro w I l vs c i os news hm hI hi hos
  intro p loose mean mg mb dp un gd cn cs L a ccd cl outer A₀ base g m s h t Q E C S hd hu hret hraise
  have hz := IntsAre.sizeA hi
  have hlen : os.length = i + 1 := by
    have := congrArg List.length hos
    simp at this; omega
  have h97 : os[i]? = some 97 := by
    have : (os.drop i)[0]? = some 97 := by rw [hos]; rfl
    rwa [List.getElem?_drop] at this
  obtain ⟨u₀, hv₀⟩ : ∃ u, vs[i]? = some (.int (97 : Nat) u) := by
    obtain ⟨f, tf, e1, e2⟩ := ints_at hi (Array.getElem?_eq_getElem (show i < vs.size by omega))
    rw [h97] at e2
    cases e2
    exact ⟨tf, by rw [Array.getElem?_eq_getElem (show i < vs.size by omega), e1]⟩
  have hvn : vs[i + 1]? = none := by simp; omega
  refine' call_fn2 [(Str.ofString "iterator", Value.ref I)] C S ?k6 ?k7 ?k8 ?k9 ?kB ?c2 ?c3 ?c4 ?c5 ?_
  case k6 => k_is
  case k7 => k_is
  case k8 => omega
  case k9 => exact BindsTo.of_eq rfl
  case kB => exact locs rfl
  case c2 => exact rfl
  case c3 => exact rfl
  case c4 => exact rfl
  case c5 => decide
  intro g' L' h' t' FG S' C' hlt G
  walk_at "W"
  refine c_next_item S' (S'.isList (.tail _ hm)) hv₀ hI fun h₁ S₁ => ?_
  walk_at "W"
  rename_i h₂ t₂ S₂ u₁ t₃ u₂ t₄ h₃ t₅ S₃
  refine' x_while (fun k m₁ n₁ => n₁ = (I, itO l (i + 1)) :: news ∧ ∃ u u', m₁ (Str.ofString "b") = some (.int (97 : Nat) u) ∧ m₁ (Str.ofString "val") = some (.int 33 u') ∧ m₁ (Str.ofString "iterator") = some (.ref I)) 0 S₃ ⟨rfl, u₀, _, rfl, rfl, rfl⟩ ?_ (by passes_own)
  rintro k m₁ n₁ h₁ t₁ S₄ ⟨rfl, u, u', e1, e2, e3⟩
  walk_at "W"
  refine ⟨fun hc => ?_, fun hc => absurd hc (by decide)⟩
  walk_at "W"
  refine o_ishl (by decide) (by decide) (by decide) fun _ _ => ?_
  walk_at "W"
  rename_i S₆
  refine c_next_end rfl S₆ (S₆.isList (.tail _ hm)) hvn hI fun h₁ h' e o' S₇ hx => ?_
  refine xl_new C'.B hx S₇ rfl fun h'' R hsm => ?_
  exact hraise _ _ _ _ _ FG R hsm ⟨o', rfl⟩
end
noncomputable section
theorem iz_snoc {vs : Array Value} {ns : List Nat} {n : Nat} {u : Tok} (hi : IntsAre vs.toList (iz ns)) : IntsAre (vs.push (.int (n : Nat) u)).toList (iz (ns ++ [n])) := by
  rw [Array.toList_push, iz_append]
  exact IntsAre.append hi (.cons _ _ .nil)
def octs (ns : List Nat) : List Nat := (ns.map oct).flatten
theorem octs_cons (n : Nat) (r : List Nat) : octs (n :: r) = oct n ++ octs r := rfl
theorem octs_append (a b : List Nat) : octs (a ++ b) = octs a ++ octs b := by simp [octs]
theorem octs_take_drop (ns : List Nat) (k : Nat) (tl : List Nat) : (octs ns ++ tl).drop (octs (ns.take k)).length = octs (ns.drop k) ++ tl := by
  conv => lhs; rw [← List.take_append_drop k ns, octs_append, List.append_assoc]
  simp
theorem octs_len (ns : List Nat) : ns.length ≤ (octs ns).length := by
  induction ns with
  | nil => simp
  | cons n r ih => rw [octs_cons, List.length_append, List.length_cons]; have := oct_len n; omega
theorem read_fn : ∀ (w : World) (lo : Addr) (vs : Array Value) (c : Nat) (ns : List Nat) (news : List (Addr × Obj)) (hm : (lo, W.listOf vs c) ∈ news) (hi : IntsAre vs.toList (iz (octs ns))) (hn : ∀ n ∈ ns, n < 64 ^ 10) (hsz : (octs ns).length < 2 ^ 20),
    FnS w 2 222 [.ref lo] [] news (fun v news' => ∃ l, v = .ref l ∧ IL news' l ns ∧ (∀ p ∈ news, p ∈ news') ) := by
  intro w lo vs c ns news hm hi hn hsz
  intro p loose mean mg mb dp un gd cn cs L a ccd cl A₀ g m s h t Q E C S hd hu hret
  have hvz := IntsAre.sizeA hi
  refine' call_fnS [(Str.ofString "octets", Value.ref lo)] C S ?k6 ?k7 ?k8 ?k9 ?kB ?c2 ?c3 ?c4 ?c5 ?_
  case k6 => k_is
  case k7 => k_is
  case k8 => omega
  case k9 => exact BindsTo.of_eq rfl
  case kB => exact locs rfl
  case c2 => exact rfl
  case c3 => exact rfl
  case c4 => exact rfl
  case c5 => decide
  intro g' L' h' t' FG S' C' hlt D
  walk_at "W"
  rename_i lt h₁ hlt₁ S₁ h₂ t₂ S₂ u₀ t₃ l97 h₃ hl97 S₃ la h₄ hla S₄
  refine c_iter S₄ (S₄.isList (.head _)) fun I h₅ hI S₅ => ?_
  walk_at "W"
  rename_i h₆ t₆ S₆
  refine c_len S₆ (.tail _ (.tail _ (.tail _ (.tail _ hm)))) (by rw [hvz]; exact Nat.le_of_lt (Nat.lt_of_lt_of_le hsz (by decide))) fun _ _ => ?_
  walk_at "W"
  refine c_range S₆ fun r h₇ t₇ t₁ t₂ t₃ hr S₇ => ?_
  rw [show ((vs.size : Nat) : Int) + 1 = ((vs.size + 1 : Nat) : Int) by omega] at S₇
  have hia : IntsAre (vs.toList ++ [Value.int 97 u₀]).toArray.toList (iz (octs ns ++ [97])) := by
    rw [iz_append]; exact IntsAre.append hi (.cons _ _ .nil)
  have hnla : ∀ p ∈ news, p.1 < la := fun p hp => hla p (.tail _ (.tail _ hp))
  have hltI : lt < I := hI _ (.tail _ (.tail _ (.head _)))
  have hlaI : la < I := hI _ (.head _)
  have hltla : lt < la := hla _ (.tail _ (.head _))
  have hsz40 : vs.size + 1 < 2 ^ 40 := by
    rw [hvz]
    have : (2:Nat) ^ 20 + 1 < 2 ^ 40 := by decide
    omega
  have hltr : lt < r := hr _ (.tail _ (.tail _ (.tail _ (.head _))))
  have hIr : I < r := hr _ (.head _)
  have S₈ := S₇.sub (news' := (lt, W.listOf #[] 0) :: (I, itO la 0) :: (la, W.listOf (vs.toList ++ [Value.int 97 u₀]).toArray 0) :: (r, rgO (vs.size + 1 : Nat) t₁ t₂ t₃) :: news) (by
    rintro p (_ | ⟨_, _ | ⟨_, _ | ⟨_, _ | ⟨_, hp⟩⟩⟩⟩)
    · exact .tail _ (.tail _ (.tail _ (.tail _ (.head _))))
    · exact .tail _ (.head _)
    · exact .tail _ (.tail _ (.head _))
    · exact .head _
    · exact .tail _ (.tail _ (.tail _ (.tail _ (.tail _ hp)))))
  refine for_range (n := vs.size + 1) (t₁ := t₁) (t₂ := t₂) (t₃ := t₃) rfl rfl hsz40 S₈ (.tail _ (.tail _ (.tail _ (.head _))))
    (fun k m₁ n₁ => k ≤ ns.length ∧ ∃ vt ct, n₁ = (lt, W.listOf vt ct) :: (I, itO la (octs (ns.take k)).length) :: (la, W.listOf (vs.toList ++ [Value.int 97 u₀]).toArray 0) :: (r, rgO (vs.size + 1 : Nat) t₁ t₂ t₃) :: news ∧ IntsAre vt.toList (iz (ns.take k)) ∧ m₁ (Str.ofString "told") = some (.ref lt) ∧ m₁ (Str.ofString "row") = some (.ref I)) ?h0 ?turn ?done (by passes_own)
  case h0 => exact ⟨Nat.zero_le _, _, _, rfl, .nil, rfl, rfl⟩
  case turn =>
    rintro k u m₁ n₁ h₈ t₈ Ir oI hk ⟨hkn, vt, ct, rfl, hit, e1, e2⟩ hIr' S₉
    have hneI : ∀ p ∈ news, p.1 ≠ I := fun p hp => Nat.ne_of_lt (Nat.lt_trans (hnla p hp) hlaI)
    have hnelt : ∀ p ∈ news, p.1 ≠ lt := fun p hp => Nat.ne_of_lt (hlt₁ p hp)
    have hIrI : Ir ≠ I := fun e => hIr' _ (.tail _ (.head _)) e.symm
    have hIrlt : Ir ≠ lt := fun e => hIr' _ (.head _) e.symm
    walk_at "W"
    rename_i h₉ t₉ S₁₀
    refine x_try ?_
    walk_at "W"
    by_cases hlast : k = ns.length
    · subst hlast
      refine varint_end w I la (vs.toList ++ [Value.int 97 u₀]).toArray 0 (octs (ns.take ns.length)).length (octs ns ++ [97]) ((lt, W.listOf vt ct) :: (la, W.listOf (vs.toList ++ [Value.int 97 u₀]).toArray 0) :: (r, rgO (vs.size + 1 : Nat) t₁ t₂ t₃) :: (Ir, oI) :: news) ?hm ?hI hia ?hd C' (S₁₀.sub ?hs) (by omega) (by omega) ?hret ?hraise
      case hm => exact .tail _ (.head _)
      case hI =>
        rintro p (_ | ⟨_, _ | ⟨_, _ | ⟨_, _ | ⟨_, hp⟩⟩⟩⟩)
        · exact Nat.ne_of_lt hltI
        · exact Nat.ne_of_lt hlaI
        · exact Ne.symm (Nat.ne_of_lt hIr)
        · exact hIrI
        · exact hneI p hp
      case hd => rw [octs_take_drop, List.drop_length]; rfl
      case hs =>
        rintro p (_ | ⟨_, _ | ⟨_, _ | ⟨_, _ | ⟨_, _ | ⟨_, hp⟩⟩⟩⟩⟩)
        · exact .tail _ (.tail _ (.head _))
        · exact .tail _ (.head _)
        · exact .tail _ (.tail _ (.tail _ (.head _)))
        · exact .tail _ (.tail _ (.tail _ (.tail _ (.head _))))
        · exact .head _
        · exact .tail _ (.tail _ (.tail _ (.tail _ (.tail _ hp))))
      case hret => exact fun _ _ _ _ _ q => q.elim
      case hraise =>
        rintro e g₁ news' h' t' F₁ R hsm ⟨o, rfl⟩
        refine caught (T' := "StopIteration") C' C.X C.T D F₁ R hsm (by k_is) (by decide +kernel) (by decide) ?hexc ?hnt ?hsub rfl (by decide) (by passes_own) fun h'' g'' T'' S₁₁ => ?_
        case hexc => exact isSubtype_of_subB (by decide +kernel)
        case hnt => exact isSubtype_of_subB (by decide +kernel)
        case hsub => exact isSubtype_of_subB (by decide +kernel)
        walk_at "W"
        refine turn_ret ?_
        refine ⟨g'', L', _, _, T'', S₁₁, fun S₁₂ => hret _ _ _ _ S₁₂ ⟨lt, rfl, ⟨vt, ct, .tail _ (.head _), by rw [List.take_length] at hit; exact hit⟩, fun p hp => .tail _ (.tail _ (.tail _ (.tail _ (.tail _ hp))))⟩⟩
    · have hkl : k < ns.length := by omega
      obtain ⟨n, hnk⟩ : ∃ n, ns[k]? = some n := ⟨_, List.getElem?_eq_getElem hkl⟩
      have hdk : ns.drop k = n :: ns.drop (k + 1) := by
        rw [List.drop_eq_getElem_cons hkl]
        rw [List.getElem?_eq_getElem hkl] at hnk
        rw [Option.some.inj hnk]
      have htk : ns.take (k + 1) = ns.take k ++ [n] := by rw [List.take_add_one, hnk]; rfl
      refine varint_ok w I la (vs.toList ++ [Value.int 97 u₀]).toArray 0 (octs (ns.take k)).length n (octs ns ++ [97]) ((lt, W.listOf vt ct) :: (la, W.listOf (vs.toList ++ [Value.int 97 u₀]).toArray 0) :: (r, rgO (vs.size + 1 : Nat) t₁ t₂ t₃) :: (Ir, oI) :: news) (hn n (List.mem_of_getElem? hnk)) ?hm2 ?hI2 hia ?hd2 C' (S₁₀.sub ?hs2) (by omega) (by omega) ?hret2 ?hraise2
      case hm2 => exact .tail _ (.head _)
      case hI2 =>
        rintro p (_ | ⟨_, _ | ⟨_, _ | ⟨_, _ | ⟨_, hp⟩⟩⟩⟩)
        · exact Nat.ne_of_lt hltI
        · exact Nat.ne_of_lt hlaI
        · exact Ne.symm (Nat.ne_of_lt hIr)
        · exact hIrI
        · exact hneI p hp
      case hd2 => exact ⟨octs (ns.drop (k + 1)) ++ [97], by rw [octs_take_drop, hdk, octs_cons, List.append_assoc]⟩
      case hs2 =>
        rintro p (_ | ⟨_, _ | ⟨_, _ | ⟨_, _ | ⟨_, _ | ⟨_, hp⟩⟩⟩⟩⟩)
        · exact .tail _ (.tail _ (.head _))
        · exact .tail _ (.head _)
        · exact .tail _ (.tail _ (.tail _ (.head _)))
        · exact .tail _ (.tail _ (.tail _ (.tail _ (.head _))))
        · exact .head _
        · exact .tail _ (.tail _ (.tail _ (.tail _ (.tail _ hp))))
      case hraise2 => exact fun _ _ _ _ _ _ _ _ q => q.elim
      case hret2 =>
        rintro v news' h₁₁ t₁₁ S₁₁ ⟨u₁₁, rfl, rfl⟩
        walk_at "W"
        refine c_append (vs := vt) (n := ct) (news := (I, itO la ((octs (ns.take k)).length + (oct n).length)) :: (la, W.listOf (vs.toList ++ [Value.int 97 u₀]).toArray 0) :: (r, rgO (vs.size + 1 : Nat) t₁ t₂ t₃) :: (Ir, oI) :: news) (S₁₁.sub ?hs3) ?hl3 ?hz3 fun h₁₂ n₁₂ S₁₂ => ?_
        case hs3 =>
          rintro p (_ | ⟨_, _ | ⟨_, hp⟩⟩)
          · exact .tail _ (.head _)
          · exact .head _
          · exact .tail _ (.tail _ hp)
        case hl3 =>
          rintro p (_ | ⟨_, _ | ⟨_, _ | ⟨_, _ | ⟨_, hp⟩⟩⟩⟩)
          · exact Ne.symm (Nat.ne_of_lt hltI)
          · exact Ne.symm (Nat.ne_of_lt hltla)
          · exact Ne.symm (Nat.ne_of_lt hltr)
          · exact hIrlt
          · exact hnelt p hp
        case hz3 =>
          rw [IntsAre.sizeA hit]
          have := octs_len ns
          have h2 : (2 : Nat) ^ 20 ≤ sizeLine := by decide
          have := List.length_take_le k ns
          omega
        walk_at "W"
        have e3 : (octs (ns.take k)).length + (oct n).length = (octs (ns.take (k + 1))).length := by
          rw [htk, octs_append, List.length_append]; simp [octs]
        rw [e3] at S₁₂
        refine turn_next ((lt, W.listOf (vt.push (.int (n : Nat) u₁₁)) n₁₂) :: (I, itO la (octs (ns.take (k + 1))).length) :: (la, W.listOf (vs.toList ++ [Value.int 97 u₀]).toArray 0) :: (r, rgO (vs.size + 1 : Nat) t₁ t₂ t₃) :: news) S₁₂ (.tail _ (.tail _ (.tail _ (.tail _ (.head _))))) ?hs4 ?ho4 ⟨hkl, _, _, rfl, ?hi4, e1, e2⟩
        case hs4 =>
          rintro p (_ | ⟨_, _ | ⟨_, _ | ⟨_, _ | ⟨_, hp⟩⟩⟩⟩)
          · exact .head _
          · exact .tail _ (.head _)
          · exact .tail _ (.tail _ (.head _))
          · exact .tail _ (.tail _ (.tail _ (.head _)))
          · exact .tail _ (.tail _ (.tail _ (.tail _ (.tail _ hp))))
        case ho4 =>
          rintro p (_ | ⟨_, _ | ⟨_, hp⟩⟩)
          · exact Ne.symm hIrlt
          · exact Ne.symm hIrI
          · exact hIr' _ (.tail _ (.tail _ hp))
        case hi4 => rw [htk]; exact iz_snoc hit
  case done =>
    rintro m₁ n₁ h₈ t₈ ⟨hkn, _⟩ S₉
    have := octs_len ns
    omega
end
noncomputable section
open PySem.Sre
def nameCode : Array Nat := #[14, 10, 4, 1, 1, 22, 0, 31, 16, 127, 0, 13, 7, 22, 0, 31, 16, 127, 0, 1]
def valueCode : Array Nat := #[14, 14, 4, 1, 1, 9, 4294966783, 0, 0, 2147483648, 0, 0, 0, 0, 0, 13, 11, 9, 4294966783, 0, 0, 2147483648, 0, 0, 0, 0, 0, 1]
structure Pat (code : Array Nat) (b e : Nat) (P : Nat → Bool) : Prop where
  hd : header code = (1, b)
  b0 : (b == 0) = false
  info : ops[code.getD 0 0]? = some .INFO
  w2 : code.getD 2 0 = 4
  first : ∀ c seen, c < 128 → ∃ seen', inSet code c code.size 5 true seen = .ok (P c, seen')
  inn : ops[code.getD b 0]? = some .IN
  set : ∀ c seen, c < 128 → ∃ seen', inSet code c code.size (b + 2) true seen = .ok (P c, seen')
  width : b + (1 + code.getD (b + 1) 0) = e
  succ : ops[code.getD e 0]? = some .SUCCESS
  blt : b < code.size
  elt : e < code.size
def ctlN (c : Nat) : Bool := (0 ≤ c && c ≤ 31) || c == 127
def ctlV (c : Nat) : Bool := decide (c < 256) && (valueCode.getD (5 + (1 + c / 32)) 0).testBit (c % 32)
theorem pat_name : Pat nameCode 11 19 ctlN where
  hd := rfl
  b0 := rfl
  info := rfl
  w2 := rfl
  first := fun c seen hc => by
    have e : inSet nameCode c nameCode.size 5 true seen = if (decide (0 ≤ c) && decide (c ≤ 31)) = true then .ok (true, seen.add 22) else if (c == 127) = true then .ok (true, (seen.add 22).add 16) else .ok (false, ((seen.add 22).add 16).add 0) := rfl
    rw [e, ctlN]
    cases (decide (0 ≤ c) && decide (c ≤ 31)) <;> cases (c == 127) <;> exact ⟨_, rfl⟩
  inn := rfl
  set := fun c seen hc => by
    have e : inSet nameCode c nameCode.size 13 true seen = if (decide (0 ≤ c) && decide (c ≤ 31)) = true then .ok (true, seen.add 22) else if (c == 127) = true then .ok (true, (seen.add 22).add 16) else .ok (false, ((seen.add 22).add 16).add 0) := rfl
    rw [e, ctlN]
    cases (decide (0 ≤ c) && decide (c ≤ 31)) <;> cases (c == 127) <;> exact ⟨_, rfl⟩
  width := rfl
  succ := rfl
  blt := by decide
  elt := by decide
theorem pat_value : Pat valueCode 15 27 ctlV where
  hd := rfl
  b0 := rfl
  info := rfl
  w2 := rfl
  first := fun c seen hc => by
    have e : inSet valueCode c valueCode.size 5 true seen = if (decide (c < 256) && (valueCode.getD (5 + (1 + c / 32)) 0).testBit (c % 32)) = true then .ok (true, seen.add 9) else .ok (false, (seen.add 9).add 0) := rfl
    rw [e, ctlV]
    cases (decide (c < 256) && (valueCode.getD (5 + (1 + c / 32)) 0).testBit (c % 32)) <;> exact ⟨_, rfl⟩
  inn := rfl
  set := fun c seen hc => by
    have e : inSet valueCode c valueCode.size 17 true seen = if (decide (c < 256) && (valueCode.getD (17 + (1 + c / 32)) 0).testBit (c % 32)) = true then .ok (true, seen.add 9) else .ok (false, (seen.add 9).add 0) := rfl
    have e2 : ∀ c : Fin 128, valueCode.getD (17 + (1 + c.val / 32)) 0 = valueCode.getD (5 + (1 + c.val / 32)) 0 := by decide +kernel
    rw [e, ctlV, e2 ⟨c, hc⟩]
    cases (decide (c < 256) && (valueCode.getD (5 + (1 + c / 32)) 0).testBit (c % 32)) <;> exact ⟨_, rfl⟩
  width := rfl
  succ := rfl
  blt := by decide
  elt := by decide
theorem ctlN_iff : ∀ c, 33 ≤ c → c < 128 → ctlN c = (c == 127) := by
  have : ∀ c : Fin 128, 33 ≤ c.val → ctlN c.val = (c.val == 127) := by decide +kernel
  exact fun c h1 h2 => this ⟨c, h2⟩ h1
theorem ctlV_iff : ∀ c, 33 ≤ c → c < 128 → ctlV c = (c == 127) := by
  have : ∀ c : Fin 128, 33 ≤ c.val → ctlV c.val = (c.val == 127) := by decide +kernel
  exact fun c h1 h2 => this ⟨c, h2⟩ h1

theorem adm {code : Array Nat} {b e : Nat} {P : Nat → Bool} (X : Pat code b e P) (m : M) (hm : m.code = code) (ht : ∀ j < m.lim, m.text.getD j 0 < 128) : ∀ (fuel s : Nat) (seen : Sre.Seen), m.lim < s + fuel →
    ∃ seen', ((∃ s', s' < m.lim ∧ P (m.text.getD s' 0) = true ∧ M.admitted m fuel s seen = .ok (some s', seen')) ∨ ((∀ j, s ≤ j → j < m.lim → P (m.text.getD j 0) = false) ∧ M.admitted m fuel s seen = .ok (none, seen')))
  | 0, s, seen, h => ⟨seen, .inr ⟨fun j h1 h2 => by omega, rfl⟩⟩
  | fuel + 1, s, seen, h => by
    unfold M.admitted
    by_cases hs : s ≥ m.lim
    · rw [if_pos hs]
      exact ⟨seen, .inr ⟨fun j h1 h2 => by omega, rfl⟩⟩
    · rw [if_neg hs, hm]
      obtain ⟨seen', e1⟩ := X.first (m.text.getD s 0) seen (ht s (by omega))
      rw [e1]
      cases hp : P (m.text.getD s 0) with
      | true => exact ⟨seen', .inl ⟨s, by omega, hp, rfl⟩⟩
      | false =>
        obtain ⟨seen₂, r⟩ := adm X m hm ht fuel (s + 1) seen' (by omega)
        refine ⟨seen₂, r.imp (fun r => r) fun ⟨r, e⟩ => ⟨fun j h1 h2 => ?_, e⟩⟩
        by_cases hj : j = s
        · rw [hj, hp]
        · exact r j (by omega) h2

theorem acc_in {code : Array Nat} {b e : Nat} {P : Nat → Bool} (X : Pat code b e P) (c : Nat) (seen : Sre.Seen) : accepts code b c seen = inSet code c code.size (b + 2) true seen := by
  unfold accepts
  rw [X.inn]
theorem width_in {code : Array Nat} {b e : Nat} {P : Nat → Bool} (X : Pat code b e P) : b + itemWidth code b = e := by
  unfold itemWidth
  rw [X.inn]; exact X.width
theorem from_hit {code : Array Nat} {b e : Nat} {P : Nat → Bool} (X : Pat code b e P) (m : M) (h1 : m.code = code) (h2 : m.outcome = none) (h3 : m.answer = none) (h4 : m.frames = []) (h5 : m.weight = 0) (h6 : m.wholeText = false) (h7 : m.pc = b) (h8 : m.mustAdvance = false)
    (s : Nat) (hs : s < m.lim) (ht : m.text.getD s 0 < 128) (hp : P (m.text.getD s 0) = true) : (M.runFor 4 (m.attemptAt s true)).outcome = some .matched := by
  obtain ⟨code', text, lim, start, lastStart, wholeText, mustAdvance, pc, pos, handed, outermost, marks, lastmark, lastindex, loops, inner, frames, weight, answer, seen, outcome⟩ := m
  dsimp only at h1 h2 h3 h4 h5 h6 h7 h8 hs ht hp
  subst h1 h2 h3 h4 h5 h6 h7 h8
  obtain ⟨seen', hset⟩ := X.set (text.getD s 0) (seen.add (code'.getD pc 0)) ht
  rw [hp] at hset
  rw [← acc_in X] at hset
  have hw := width_in X
  have hblt := X.blt
  have helt := X.elt
  simp only [M.runFor, M.step, M.attemptAt, M.attempt, M.exec, M.word, M.say, M.resume, Nat.add_zero, X.inn, X.succ, hset, hw, hs, hblt, helt, Option.isSome_none, Option.isSome_some, if_true, if_false, Bool.false_eq_true, Nat.not_le.mpr hs, ge_iff_le, Array.size_empty, gt_iff_lt, Nat.lt_irrefl, Bool.and_false, Bool.or_false, Bool.false_and, Bool.true_and, Nat.reduceAdd, Nat.reduceLT, reduceIte]
theorem search_spec {code : Array Nat} {b e : Nat} {P : Nat → Bool} (X : Pat code b e P) (text : Array Nat) (ht : ∀ j < text.size, text.getD j 0 < 128) :
    ((∃ j, j < text.size ∧ P (text.getD j 0) = true) ∧ (M.runFor 4 (forSearch code text 0 0 text.size false)).outcome = some .matched) ∨
    ((∀ j, j < text.size → P (text.getD j 0) = false) ∧ (M.runFor 4 (forSearch code text 0 0 text.size false)).outcome = some .failed) := by
  let m0 : M := { code, text, lim := text.size, start := 0, pc := (header code).2, pos := 0, handed := 0, marks := Array.replicate (2 * 0) none, mustAdvance := false, seen := if (header code).2 == 0 then {} else ({} : Sre.Seen).add 14 }
  have e0 : forSearch code text 0 0 text.size false = if (decide (0 > text.size) || decide (text.size - 0 < (header code).1)) = true then m0.say false else { m0 with lastStart := if ((header code).1 > 1 && !((header code).2 != 0 && code.getD 2 0 &&& 5 != 0)) = true then max 0 (text.size - ((header code).1 - 1)) else text.size }.attemptFrom 0 true := rfl
  rw [e0]
  by_cases h0 : text.size = 0
  · right
    refine ⟨fun j hj => by omega, ?_⟩
    rw [if_pos (by rw [X.hd, h0]; rfl)]
    rfl
  · rw [if_neg (by rw [X.hd]; intro hc; rcases (Bool.or_eq_true _ _ ▸ hc) with q | q <;> have := of_decide_eq_true q <;> (try dsimp only at this) <;> omega)]
    generalize hm : ({ m0 with lastStart := if ((header code).1 > 1 && !((header code).2 != 0 && code.getD 2 0 &&& 5 != 0)) = true then max 0 (text.size - ((header code).1 - 1)) else text.size } : M) = m
    have hpc : m.pc = b := by rw [← hm]; show (header code).2 = b; rw [X.hd]
    have hcode : m.code = code := by rw [← hm]
    have hlim : m.lim = text.size := by rw [← hm]
    have htext : m.text = text := by rw [← hm]
    have ho : m.outcome = none := by rw [← hm]
    have ha : m.answer = none := by rw [← hm]
    have hf : m.frames = [] := by rw [← hm]
    have hw : m.weight = 0 := by rw [← hm]
    have hwt : m.wholeText = false := by rw [← hm]
    have hfirst : m.hasFirstSet = true := by
      unfold M.hasFirstSet
      rw [hcode, X.info, X.w2]; rfl
    unfold M.attemptFrom
    rw [hfirst]
    obtain ⟨seen', r⟩ := adm X m hcode (by rw [hlim, htext]; exact ht) (m.lim + 1 - 0) 0 m.seen (by omega)
    rcases r with ⟨s', h1, h2, h3⟩ | ⟨h1, h2⟩
    · left
      refine ⟨⟨s', by rw [← hlim]; exact h1, by rw [← htext]; exact h2⟩, ?_⟩
      rw [h3]
      exact from_hit X { m with mustAdvance := false, seen := seen' } hcode ho ha hf hw hwt hpc rfl s' h1 (by show m.text.getD s' 0 < 128; rw [htext]; exact ht s' (by rw [← hlim]; exact h1)) h2
    · right
      refine ⟨fun j hj => by have := h1 j (Nat.zero_le _) (by rw [hlim]; exact hj); rwa [htext] at this, ?_⟩
      rw [h2]
      show (M.runFor 4 (M.say { m with seen := seen' } false)).outcome = _
      obtain ⟨code', text, lim, start, lastStart, wholeText, mustAdvance, pc, pos, handed, outermost, marks, lastmark, lastindex, loops, inner, frames, weight, answer, seen, outcome⟩ := m
      dsimp only at ho ha hf
      subst ho ha hf
      rfl
end
noncomputable section
open PySem.Sre
namespace RF
open PySem.F
theorem plainAttrs_pat : PlainAttrs "re.Pattern" := by
  first
  | exact ⟨⟨"object.__getattribute__", by rw [typeLookup_type, builtinLookup_eq_fast]; kernel_rfl, by decide +kernel⟩, by rw [typeLookup_type, builtinLookup_eq_fast]; kernel_rfl⟩
  | exact ⟨⟨"re.Pattern.__getattribute__", by rw [typeLookup_type, builtinLookup_eq_fast]; kernel_rfl, by decide +kernel⟩, by rw [typeLookup_type, builtinLookup_eq_fast]; kernel_rfl⟩
theorem slot_search : Slot "re.Pattern" "search" "re.Pattern.search" :=
  .of (owner := "re.Pattern") (n := "search") (by rw [typeLookup_type, builtinLookup_eq_fast]; kernel_rfl) (by decide +kernel) (by decide +kernel) (by decide +kernel)
    (by first | exact .inl (by decide +kernel) | exact .inr (by decide +kernel)) (by rw [isSubtype_type]; kernel_rfl)
theorem type_search : typeOf (.builtin "re.Pattern.search") = pure (.type "method_descriptor") := by show builtinType _ = _; rw [builtinType_eq_fast]; kernel_rfl
theorem entry_search : entryFor table "re.Pattern.search" = some Builtin.«re.Pattern.search» := by
  first | exact entryFor_of_tree (by kernel_rfl) | exact entryFor_of_fast (by kernel_rfl)
theorem args_search (a b : Value) : argsOk "re.Pattern.search" ⟨[a, b], []⟩ := by
  unfold argsOk; kernel_rfl
theorem look_match_bool : typeLookup (.type "re.Match") "__bool__" = pure none := by rw [typeLookup_type, builtinLookup_eq_fast]; kernel_rfl
theorem look_match_len : typeLookup (.type "re.Match") "__len__" = pure none := by rw [typeLookup_type, builtinLookup_eq_fast]; kernel_rfl
end RF
section
variable {prog : Program} {w : World} {A : Around} {E : Value → Shared → Prop} {s : Shared} {h : Heap} {t : Nat} {g : Heap} {L : Addr} {m : Str → Option Value} {news : List (Addr × Obj)}
open Builtin.Re
theorem named_search {M : Model} {v : Value} {Q : List (Option Value) → Shared → Prop} (hq : Q [some v, none, none] s) : wpAny M A (reNamed "re.Pattern.search" "search" ["string", "pos", "endpos"] 1 [v] []) Q E s :=
  wpAny_of_eq (a := [some v, none, none]) (by first | rfl | kernel_rfl!) hq
def codeOf (items : Array Value) : Array Nat := (items.map reRawOf).map (·.toNat)
theorem target_ok {M : Model} {P cdA : Addr} {oP oC : Obj} {items : Array Value} {n : Nat} {x : Str} {u t₁ t₂ t₃ : Tok} {pt : Value} {Q : ReTarget → Shared → Prop} (hP : s.heap.get? P = some oP) (hd : oP.data = .fields #[pt,   .int 32 t₁, .int 0 t₂, .none, .none, .ref cdA, .int 0 t₃])
    (hC : s.heap.get? cdA = some oC) (hcd : oC.data = .seq items n)
    (hq : Q { pattern := .ref P, string := .str x u, code := codeOf items, text := x.cps, kind := 0, groups := 0, pos := min (0 : Int).toNat x.cps.size, lim := min (2 ^ 63 - 1 : Int).toNat x.cps.size } s) :
    wpAny M A (reTarget "re.Pattern.search" "search" ⟨[.ref P, .str x u], []⟩) Q E s := by
  unfold reTarget
  refine wpAny_bind (named_search ?_)
  dsimp only
  refine wpAny_bind (wpAny_pure (wpAny_bind (wpAny_pure (wpAny_bind (wpAny_fieldsOf hP hd ?_)))))
  refine wpAny_bind (wpAny_of_eq (a := (x.cps, 0)) (by rfl) ?_)
  dsimp only
  refine wpAny_ite_split (fun hab => absurd hab Bool.false_ne_true) (fun _ => ?_)
  refine wpAny_ite_split (fun hab => absurd hab Bool.false_ne_true) (fun _ => ?_)
  refine wpAny_bind (wpAny_of_eq (a := ()) (by rfl) ?_)
  unfold reRawItems
  refine wpAny_bind (wpAny_bind (wpAny_seqItems hC hcd (wpAny_pure (wpAny_pure ?_))))
  exact hq
theorem run_end {M : Model} {m : Sre.M} {Q : Option Sre.M → Shared → Prop} (hm : (∃ o, (Sre.M.runFor 4 m).outcome = some o ∧ (o = .matched ∨ o = .failed)))
    (hq : ((Sre.M.runFor 4 m).outcome = some .matched → Q (some (Sre.M.runFor 4 m)) s) ∧ ((Sre.M.runFor 4 m).outcome = some .failed → Q none s)) : wpAny M A (reRunToEnd m) Q E s := by
  obtain ⟨o, ho, hor⟩ := hm
  unfold reRunToEnd
  refine wpAny_bind ?_
  show wpAny M A (if (Sre.M.runFor reTurnSteps m).outcome.isSome = true then pure (Sre.M.runFor reTurnSteps m) else _) _ E s
  rw [show Sre.M.runFor reTurnSteps m = Sre.M.runFor 4 m from rfl, if_pos (by rw [ho]; rfl)]
  refine wpAny_pure (wpAny_bind ?_)
  refine wpAny_forIn_list _ (fun _ _ s' => s' = s) _ (fun i rest b s' e => ?_) (fun b s' e => ?_) _ _ rfl
  · subst e
    split
    · exact wpAny_bind (wpAny_rule (wpAny_pure rfl))
    · exact wpAny_pure rfl
  · subst e
    rcases hor with rfl | rfl
    · rw [ho]; exact wpAny_pure (hq.1 ho)
    · rw [ho]; exact wpAny_pure (hq.2 ho)
theorem c_search {P cdA : Addr} {oC : Obj} {items : Array Value} {n : Nat} {l : List Nat} {u t₁ t₂ t₃ : Tok} {pt : Value} {code : Array Nat} {b e : Nat} {Pc : Nat → Bool} {Q : Value → Shared → Prop} (X : Pat code b e Pc) (S : St g L m news h)
    (hP : h.get? P = some { cls := .type "re.Pattern", data := .fields #[pt, .int 32 t₁, .int 0 t₂, .none, .none, .ref cdA, .int 0 t₃] }) (hC : h.get? cdA = some oC) (hcd : oC.data = .seq items n) (hcode : codeOf items = code) (hl : ∀ c ∈ l, c < 128) (hsz : l.length ≤ 2 ^ 20)
    (hmiss : (∀ c ∈ l, Pc c = false) → Q .none (sh s h t))
    (hhit : (∃ c ∈ l, Pc c = true) → ∀ M h' o, St g L m ((M, o) :: news) h' → o.cls = .type "re.Match" → o.dict = none → Q (.ref M) (sh s h' t)) :
    wpAny (model prog w) A (call (.builtin "re.Pattern.search") [.ref P, .str (so l) u]) Q E (sh s h t) := by
  have hat : ∀ j, j < (so l).cps.size → ∃ c ∈ l, (so l).cps.getD j 0 = c := fun j hj => by
    have hj' : j < l.length := by simpa using hj
    exact ⟨l[j], List.getElem_mem hj', by simp [Array.getD, hj']⟩
  have hof : ∀ c ∈ l, ∃ j, j < (so l).cps.size ∧ (so l).cps.getD j 0 = c := fun c hc => by
    obtain ⟨j, hj, rfl⟩ := List.mem_iff_getElem.mp hc
    exact ⟨j, by simpa using hj, by simp [Array.getD, hj]⟩
  refine wpAny_call_entry RF.slot_search (show (sh s h t).TypeIs (.ref P) "re.Pattern" from ⟨_, hP, rfl⟩) RF.entry_search ?_ (RF.args_search _ _)
  unfold Builtin.«re.Pattern.search»
  refine wpAny_bind (target_ok (s := sh s h t) hP rfl hC hcd ?_)
  rw [hcode]
  have hlim : min (2 ^ 63 - 1 : Int).toNat (so l).cps.size = (so l).cps.size := by
    refine Nat.min_eq_right ?_
    show l.toArray.size ≤ _
    rw [List.size_toArray]
    exact Nat.le_trans hsz (by decide)
  have hpos : min (0 : Int).toNat (so l).cps.size = 0 := by simp
  rw [hlim, hpos]
  unfold reAnswer
  dsimp only
  refine wpAny_bind (run_end ?_ ⟨fun ho => ?_, fun ho => ?_⟩)
  · rcases search_spec X (so l).cps (fun j hj => by obtain ⟨c, hc, e⟩ := hat j hj; rw [e]; exact hl c hc) with ⟨_, q⟩ | ⟨_, q⟩
    · exact ⟨_, q, .inl rfl⟩
    · exact ⟨_, q, .inr rfl⟩
  · have hx : ∃ c ∈ l, Pc c = true := by
      rcases search_spec X (so l).cps (fun j hj => by obtain ⟨c, hc, e⟩ := hat j hj; rw [e]; exact hl c hc) with ⟨⟨j, hj, hp⟩, _⟩ | ⟨_, q⟩
      · obtain ⟨c, hc, e⟩ := hat j hj
        exact ⟨c, hc, by rw [← e]; exact hp⟩
      · rw [q] at ho; cases ho
    refine wpAny_bind ?_
    unfold reNewMatch
    refine wpAny_ite_split (fun hab => absurd hab Bool.false_ne_true) (fun _ => ?_)
    refine wpAny_bind ?_
    rw [show ((List.range 0).flatMap fun g => _) = [] from rfl]
    simp only [newTuple]
    refine wpAny_newObj_type ?_ (by size_fits)
    simp only [newFields]
    refine wpAny_newObj_type ?_ (by size_fits)
    refine wpAny_pure ⟨_, rfl, ?_⟩
    have S₁ := S.push (o := { cls := .type "tuple", data := .seq #[rawInt ↑(M.runFor 4 (forSearch code l.toArray 0 0 l.toArray.size false)).start, rawInt ↑(M.runFor 4 (forSearch code l.toArray 0 0 l.toArray.size false)).handed] 0 }) rfl
    have S₂ := S₁.push (o := { cls := .type "re.Match", data := .fields #[Value.str (so l) u, Value.ref P, rawInt ↑0, rawInt ↑l.toArray.size, rawInt (M.runFor 4 (forSearch code l.toArray 0 0 l.toArray.size false)).lastindex, Value.ref h.objs.size] }) rfl
    exact hhit hx _ _ _ (S₂.sub (by
      rintro p (_ | ⟨_, hp⟩)
      · exact .head _
      · exact .tail _ (.tail _ hp))) rfl rfl
  · have hx : ∀ c ∈ l, Pc c = false := by
      rcases search_spec X (so l).cps (fun j hj => by obtain ⟨c, hc, e⟩ := hat j hj; rw [e]; exact hl c hc) with ⟨_, q⟩ | ⟨q, _⟩
      · rw [q] at ho; cases ho
      · intro c hc
        obtain ⟨j, hj, e⟩ := hof c hc
        rw [← e]; exact q j hj
    exact wpAny_pure ⟨.none, rfl, hmiss hx⟩
theorem truthy_match {M : Addr} {o : Obj} {R : Bool → Shared → Prop} (S : St g L m ((M, o) :: news) h) (hc : o.cls = .type "re.Match") (hq : R true (sh s h t)) : wpAny (model prog w) A (truthy (.ref M)) R E (sh s h t) := by
  have hT : (sh s h t).TypeIs (.ref M) "re.Match" := ⟨o, (S.N _ (.head _)).1, hc⟩
  unfold truthy
  first
    | refine wpAny_bind (wpAny_callSpecial?_none (name := Str.ofString "__bool__") hT RF.look_match_bool ?_)
    | refine wpAny_bind (wpAny_pure (wpAny_bind (wpAny_callSpecial?_none (name := Str.ofString "__bool__") hT RF.look_match_bool ?_)))
  first
    | refine wpAny_bind (wpAny_specialOf (name := Str.ofString "__len__") hT RF.look_match_len ?_)
    | refine wpAny_bind (wpAny_pure (wpAny_bind (wpAny_specialOf (name := Str.ofString "__len__") hT RF.look_match_len ?_)))
  exact wpAny_pure hq
end
end
noncomputable section
section
variable {w : World} {A : Around} {E : Value → Shared → Prop} {s : Shared} {h : Heap} {t : Nat} {g : Heap} {L : Addr} {m : Str → Option Value} {news : List (Addr × Obj)} {env : Env}
  {cn : Str} {cs : Scope} {a : Addr} {ccd : Value} {cl : List (Str × Addr)} {p : Program} {loose : List Str} {mean : ExcName → Option Value} {mg mb : Str → Option Value} {outer : List Env} {A₀ : Around} {base : Heap}
  {pos : Pos} {Q : Value → Shared → Prop} {R : Value × List Value → Shared → Prop}
abbrev hdD (hv : Int) (tk : Tok) (lst : Addr) (n : Nat) : Obj := dictOf [⟨hv, .str (Str.ofString "_headers") tk, .ref lst⟩] n
theorem gm_inst {x dx lst : Addr} {hv : Int} {tk : Tok} {n : Nat} {name : Str} {f : Addr} {pl : Sem Bool} (C : Cx w p loose mean mg mb cs outer A₀ base g) (S : St g L m news h) (hx : (x, instObj 182 dx) ∈ news) (hdx : (dx, hdD hv tk lst n) ∈ news)
    (hg : plainGet (hd.heap_39 w.params) 182 name = true) (hf : findIn (hd.heap_39 w.params) (.ref 182) name = some (some (.ref f))) (ht : isFn (hd.heap_39 w.params) (.ref f) = true)
    (hl : getL name [⟨hv, .str (Str.ofString "_headers") tk, .ref lst⟩] = some none) (hq : R (.ref f, [.ref x]) (sh s h t)) :
    wpAny (model (PySem.Challenge.rw_pm0042_01.row.prog) w) A (getMethod (.ref x) name pl) R E (sh s h t) :=
  method_inst (s := sh s h t) S.F C.X (InstAt.of_news S.N hx hdx) hg hf ht hl hq
theorem ga_headers {x dx lst : Addr} {hv : Int} {tk : Tok} {n : Nat} {expr : Bool} {attr : Option Value} (C : Cx w p loose mean mg mb cs outer A₀ base g) (S : St g L m news h) (hx : (x, instObj 182 dx) ∈ news) (hdx : (dx, hdD hv tk lst n) ∈ news)
    (hg : plainGet (hd.heap_39 w.params) 182 (Str.ofString "_headers") = true) (hh : hasDictIn (hd.heap_39 w.params) 182 = true) (ha : findIn (hd.heap_39 w.params) (.ref 182) (Str.ofString "_headers") = some attr) (hn : noGet (hd.heap_39 w.params) attr = true)
    (hq : ∀ t', Q (.ref lst) (sh s h t')) : wpAny (model (PySem.Challenge.rw_pm0042_01.row.prog) w) A (getAttr (.ref x) (Str.ofString "_headers") expr) Q E (sh s h t) :=
  get_own (s := sh s h t) S.F C.X (InstAt.of_news S.N hx hdx) hg hh ha hn rfl rfl (hq _)
theorem e_attr {M : Model} {n attr : Str} {np : Pos} (hq : wpAny M A (eval (.Name n np) env) (fun o s₁ => wpAny M A (getAttr o attr true) Q E s₁) E s) : wpAny M A (eval (.Attribute (.Name n np) attr pos) env) Q E s := Attribute_name hq
theorem e_methK {M : Model} {o : Expr} {name : Str} {apos : Pos} {args : List Expr} {k : Keyword} {kws : List Keyword} {pl : Sem Bool}
    (he : eval (.Call (.Attribute o name apos) args (k :: kws) pos) env = (do
      let ov ← eval o env
      standAt apos.atName
      let (f, first) ← holding [ov] (getMethod ov name pl)
      callWith pos f first (backTo pos (starEach args env)) (backToKw pos (keywordEach (k :: kws) env))))
    (hq : wpAny M A (eval o env) (fun ov s₁ => wpAny M A (getMethod ov name pl) (fun fx s₂ => wpAny M A (callWith pos fx.1 fx.2 (backTo pos (starEach args env)) (backToKw pos (keywordEach (k :: kws) env))) Q E s₂) E s₁) E s) :
    wpAny M A (eval (.Call (.Attribute o name apos) args (k :: kws) pos) env) Q E s := methodCall_KW hq he
theorem cw_KK {f : Addr} {first : List Value} {e : Expr} {rest : List Expr} {k : Keyword} {kws : List Keyword} (hk : keepIn (hd.heap_39 w.params) (.ref f) = true) (hall : (backToKw pos (keywordEach (k :: kws) env)).all (·.1.isSome) = true)
    (hplain : ((backTo pos (starEach (e :: rest) env)).any (·.1) || (backToKw pos (keywordEach (k :: kws) env)).any (·.1.isNone)) = false) (he : starEach (e :: rest) env = (false, eval e env) :: starEach rest env)
    (hq : wpAny (model (PySem.Challenge.rw_pm0042_01.row.prog) w) A (spliced (backTo pos (starEach (e :: rest) env))) (fun vs s₁ => wpAny (model (PySem.Challenge.rw_pm0042_01.row.prog) w) A (evalAll ((backToKw pos (keywordEach (k :: kws) env)).map (·.2)))
      (fun ks s₂ => (hd.heap_39 w.params).In s₂.heap ∧ wpAny (model (PySem.Challenge.rw_pm0042_01.row.prog) w) A (call (.ref f) (first ++ vs) (((backToKw pos (keywordEach (k :: kws) env)).filterMap (·.1)).zip ks)) Q E s₂) E s₁) E s) :
    wpAny (model (PySem.Challenge.rw_pm0042_01.row.prog) w) A (callWith pos (.ref f) first (backTo pos (starEach (e :: rest) env)) (backToKw pos (keywordEach (k :: kws) env))) Q E s :=
  callWith_of hplain (keeps_K hk) (evalArgs_kw2 hall hq he)
theorem k_nil {M : Model} {Q : List Value → Shared → Prop} (hq : Q [] s) : wpAny M A (evalAll ((backToKw pos (keywordEach [] env)).map (·.2))) Q E s := kws_nil hq
theorem k_cons {M : Model} {name : Str} {value : Expr} {kp : Pos} {rest : List Keyword} {Q : List Value → Shared → Prop}
    (hq : wpAny M A (eval value env) (fun v s₁ => wpAny M A (evalAll ((backToKw pos (keywordEach rest env)).map (·.2))) (fun vs s₂ => Q (v :: vs) s₂) E s₁) E s) :
    wpAny M A (evalAll ((backToKw pos (keywordEach (⟨some name, value, kp⟩ :: rest) env)).map (·.2))) Q E s := kws_cons hq
theorem call_oneK {M : Model} {f v : Value} {vs : List Value} {kw : List (Str × Value)} (hq : wpAny M A (call f (v :: vs) kw) Q E s) : wpAny M A (call f ([v] ++ vs) kw) Q E s := hq
theorem c_type_str {x : Str} {u : Tok} (hq : Q (.type "str") s) : wpAny (model (PySem.Challenge.rw_pm0042_01.row.prog) w) A (call (.type "type") [.str x u]) Q E s := call_type_of (typeIs_str s x u) (by decide +kernel) hq
theorem o_is_self {M : Model} {T : String} (hq : Q (.bool true) s) : wpAny M A (compareOp .Is (.type T) (.type T)) Q E s := wpAny_is_self rfl hq
theorem truthy_none' {M : Model} {R : Bool → Shared → Prop} (hq : R false s) : wpAny M A (truthy .none) R E s := PyProof.Rows.truthy_none hq
theorem x_raiseV {e₀ : Expr} {rest : List Expr} {np cpos rpos : Pos} {srest : List Stmt} {Q : Flow → Shared → Prop} (hh : A.handled = none)
    (he : starEach (e₀ :: rest) env = (false, eval e₀ env) :: starEach rest env) (hplain : (backTo cpos (starEach rest env)).any (·.1) = false)
    (hq : wpAny (model (PySem.Challenge.rw_pm0042_01.row.prog) w) A (eval (.Name (Str.ofString "ValueError") np) env) (fun f s₁ => f = .type "ValueError" ∧ wpAny (model (PySem.Challenge.rw_pm0042_01.row.prog) w) A (spliced (backTo cpos (starEach (e₀ :: rest) env)))
      (fun vs s₂ => vs.length ≤ sizeLine ∧ ∀ h' e, Heap.NewExc s₂.heap h' e "ValueError" → E (.ref e) { s₂ with heap := h' }) E s₁) E s) :
    wpAny (model (PySem.Challenge.rw_pm0042_01.row.prog) w) A (execs (.Raise (some (.Call (.Name (Str.ofString "ValueError") np) (e₀ :: rest) [] cpos)) none rpos :: srest) env) Q E s :=
  wpAny_execs_cons (Raise_madeB F.excCall_ValueError F.excRaise_ValueError hh (wpAny_mono hq (fun f s₁ q => ⟨q.1, wpAny_mono q.2 (fun vs s₂ q => ⟨q.1, fun h' e hm => q.2 h' e hm.newExc⟩) fun _ _ x => x⟩) fun _ _ x => x) he hplain)
end
end
local macro_rules | `(tactic| walk_at "W8") => `(tactic| first
  | ((with_reducible refine' gm_inst ?C ?S ?hx ?hdx ?hg ?hf ?ht ?hl ?_); (case C | S => assumption); (case hx | hdx => walk_at "MEM"); (case hg | hf | ht => k_is); (case hl => rfl))
  | ((with_reducible refine' ga_headers ?C ?S ?hx ?hdx ?hg ?hh ?ha ?hn ?_); (case C | S => assumption); (case hx | hdx => walk_at "MEM"); (case hg | hh => k_is); (case ha | hn => k_is); intro _)
  | (with_reducible refine' e_attr ?_)
  | ((with_reducible refine' e_methK (pl := _) ?he ?_); (case he => exact rfl))
  | ((with_reducible refine' cw_KK ?hk ?hall ?hp ?he ?_); (case hk => k_is); (case hall | hp | he => exact rfl))
  | (with_reducible refine' k_nil ?_)
  | (with_reducible refine' k_cons ?_)
  | (with_reducible refine' call_oneK ?_)
  | (with_reducible refine' c_type_str ?_)
  | (with_reducible refine' o_is_self ?_)
  | (with_reducible refine' truthy_none' ?_)
  | fail)
noncomputable section
theorem gm_search {M : Model} {A : Around} {E : Value → Shared → Prop} {s : Shared} {P : Addr} {oP : Obj} {pl : Sem Bool} {R : Value × List Value → Shared → Prop} (hP : s.heap.get? P = some oP) (hc : oP.cls = .type "re.Pattern") (hd : oP.dict = none) (hq : R (.builtin "re.Pattern.search", [.ref P]) s) :
    wpAny M A (getMethod (.ref P) (Str.ofString "search") pl) R E s :=
  getMethod_builtin (v := .ref P) ⟨_, hP, hc⟩ RF.plainAttrs_pat RF.slot_search RF.type_search (fun a e => by cases e; exact ⟨_, hP, hd⟩) hq
theorem pats (w : World) : (∃ t₁ t₂ t₃ pt, (hd.heap_39 w.params).lookup 48 = some { cls := .type "re.Pattern", data := .fields #[pt, .int 32 t₁, .int 0 t₂, .none, .none, .ref 47, .int 0 t₃] }) ∧
    (∃ t₁ t₂ t₃ pt, (hd.heap_39 w.params).lookup 53 = some { cls := .type "re.Pattern", data := .fields #[pt, .int 32 t₁, .int 0 t₂, .none, .none, .ref 52, .int 0 t₃] }) := ⟨⟨_, _, _, _, by k_is⟩, ⟨_, _, _, _, by k_is⟩⟩
theorem codes (w : World) : (∃ o items n, (hd.heap_39 w.params).lookup 47 = some o ∧ o.data = .seq items n ∧ codeOf items = nameCode) ∧ (∃ o items n, (hd.heap_39 w.params).lookup 52 = some o ∧ o.data = .seq items n ∧ codeOf items = valueCode) :=
  ⟨⟨_, _, _, by k_is, rfl, by decide +kernel⟩, ⟨_, _, _, by k_is, rfl, by decide +kernel⟩⟩
/-- either pattern finds just the sign 127 here -/
theorem regex_at (w : World) (b : Bool) : ∃ (P cdA : Addr) (oC : Obj) (items : Array Value) (n : Nat) (t₁ t₂ t₃ : Tok) (pt : Value) (code : Array Nat) (bb e : Nat) (Pc : Nat → Bool), P = (if b then 48 else 53) ∧ Pat code bb e Pc ∧
    (hd.heap_39 w.params).lookup P = some { cls := .type "re.Pattern", data := .fields #[pt, .int 32 t₁, .int 0 t₂, .none, .none, .ref cdA, .int 0 t₃] } ∧ (hd.heap_39 w.params).lookup cdA = some oC ∧ oC.data = .seq items n ∧ codeOf items = code ∧
    ∀ c, 33 ≤ c → c < 128 → Pc c = (c == 127) := by
  obtain ⟨⟨t₁, t₂, t₃, pt, e1⟩, ⟨t₁', t₂', t₃', pt', e1'⟩⟩ := pats w
  obtain ⟨⟨o, items, n, e2, e3, e4⟩, ⟨o', items', n', e2', e3', e4'⟩⟩ := codes w
  cases b
  · exact ⟨53, 52, o', items', n', t₁', t₂', t₃', pt', _, _, _, _, rfl, pat_value, e1', e2', e3', e4', ctlV_iff⟩
  · exact ⟨48, 47, o, items, n, t₁, t₂, t₃, pt, _, _, _, _, rfl, pat_name, e1, e2, e3, e4, ctlN_iff⟩
theorem conv_fn : ∀ (w : World) (x : Addr) (l : List Nat) (hl : ∀ c ∈ l, 33 ≤ c ∧ c < 128) (hz : l.length ≤ 2 ^ 20) (b : Bool) (u : Tok) (news : List (Addr × Obj)),
    FnR w 1 83 [.ref x, .str (so l) u] [(Str.ofString "name", .bool b)] "ValueError" news (fun v news' => v = .str (so l) u ∧ news' = news ∧ 127 ∉ l) (fun news' => news' = news ∧ 127 ∈ l) := by
  intro w x l hl hz b u news
  intro p loose mean mg mb dp un gd cn cs L a ccd cl outer A₀ base g m s h t Q E C S hd hu hret hraise
  refine' call_fn2 [(Str.ofString "self", Value.ref x), (Str.ofString "value", Value.str (so l) u), (Str.ofString "name", Value.bool b)] C S ?k6 ?k7 ?k8 ?k9 ?kB ?c2 ?c3 ?c4 ?c5 ?_
  case k6 => k_is
  case k7 => k_is
  case k8 => omega
  case k9 => exact BindsTo.of_eq rfl
  case kB => exact locs rfl
  case c2 => exact rfl
  case c3 => exact rfl
  case c4 => exact rfl
  case c5 => decide
  intro g' L' h' t' FG S' C' hlt G
  walk_at "V"
  refine ⟨fun _ => ?_, fun hb => absurd hb.symm Bool.false_ne_true⟩
  obtain ⟨P, cdA, oC, items, n, t₁, t₂, t₃, pt, code, bb, e, Pc, hP, X, k1, k2, k3, k4, k5⟩ := regex_at w b
  cases b
  all_goals
    walk_at "V"
    first | refine ⟨fun hb => absurd hb Bool.false_ne_true, fun _ => ?_⟩ | refine ⟨fun _ => ?_, fun hb => absurd hb.symm Bool.false_ne_true⟩
    walk_at "V"
    have S₁ := ‹St g' L' (upd _ _ _) news _›
    simp only [if_true, if_false, Bool.false_eq_true] at hP
    subst hP
    have k1' := C'.in S₁ _ _ k1
    have k2' := C'.in S₁ _ _ k2
    refine gm_search k1' rfl rfl ?_
    walk_at "V"
    refine c_search X S₁ k1' k2' k3 k4 (fun c hc => (hl c hc).2) hz (fun hmiss => ?_) (fun hhit M h₂ o S₂ hoc _ => ?_)
    · walk_at "V"
      refine ⟨fun hb => absurd hb Bool.false_ne_true, fun _ => ?_⟩
      walk_at "V"
      refine leave_r S₁ fun S₃ => hret _ _ _ _ S₃ ⟨rfl, rfl, fun h127 => ?_⟩
      have := hmiss 127 h127
      rw [k5 127 (by omega) (by omega)] at this
      cases this
    · refine truthy_match S₂ hoc ?_
      refine ⟨fun _ => ?_, fun hb => absurd hb.symm Bool.false_ne_true⟩
      walk_at "V"
      refine x_raiseV rfl rfl rfl ?_
      walk_at "V"
      refine ⟨rfl, ?_⟩
      walk_at "V"
      refine ⟨(show (1 : Nat) ≤ sizeLine by decide), fun h₃ e hx => ?_⟩
      refine xl_new C'.B hx (S₂.sub fun p hp => .tail _ hp) rfl fun h'' R hsm => ?_
      refine hraise _ _ _ _ _ FG R hsm ⟨rfl, ?_⟩
      obtain ⟨c, hc, hp⟩ := hhit
      rw [k5 c (hl c hc).1 (hl c hc).2] at hp
      exact (eq_of_beq hp) ▸ hc
end
noncomputable section
def low (c : Nat) : Nat := if 65 ≤ c ∧ c ≤ 90 then c + 32 else c
theorem lowerOf_low : ∀ c, c < 128 → Unicode.lowerOf c = [low c] := by
  have : ∀ c : Fin 128, Unicode.lowerOf c.val = [low c.val] := by decide +kernel
  exact fun c hc => this ⟨c, hc⟩
theorem lower_so (l : List Nat) (hl : ∀ c ∈ l, c < 128) : Txt.lower (so l) = so (l.map low) := by
  unfold Txt.lower
  rw [placed_single (so l) _ low fun i c hc => ?_]
  · show (⟨_⟩ : Str) = ⟨_⟩
    simp
  · have hc' : l[i]? = some c := by simpa using hc
    have hm := List.mem_of_getElem? hc'
    have hlt := hl c hm
    unfold Unicode.lowerAt
    rw [show (so l).cps[i]? = some c by simpa using hc']
    dsimp only
    rw [if_neg, lowerOf_low c hlt]
    intro h
    have : c = 931 := by
      have := (Bool.and_eq_true_iff.mp h).1
      exact eq_of_beq this
    omega
section
variable {prog : Program} {w : World} {A : Around} {E : Value → Shared → Prop} {s : Shared} {h : Heap} {t : Nat} {g : Heap} {L : Addr} {m : Str → Option Value} {news : List (Addr × Obj)} {env : Env} {pos : Pos} {u v : Tok} {Q : Value → Shared → Prop}
theorem beq_so (a b : List Nat) : (so a == so b) = (a == b) := by
  by_cases h : a = b
  · subst h; simp
  · have : so a ≠ so b := fun e => h (by have := congrArg (fun x : Str => x.cps.toList) e; simpa using this)
    rw [beq_eq_false_iff_ne.mpr this, beq_eq_false_iff_ne.mpr h]
theorem c_lower {l : List Nat} (hl : ∀ c ∈ l, c < 128) (hz : l.length ≤ 1000000) (hq : ∀ u t', Q (.str (so (l.map low)) u) (sh s h t')) : wpAny (model prog w) A (call (.builtin "str.lower") [.str (so l) u]) Q E (sh s h t) := by
  have hz' : (so l).length ≤ 5592405 := by
    show l.toArray.size ≤ _
    rw [List.size_toArray]; omega
  refine SC.lower (s := sh s h t) (fit_lower hz') ?_
  rw [lower_so l hl]
  exact hq _ _
theorem o_eqs {a b : List Nat} (hq : Q (.bool (a == b)) s) : wpAny (model prog w) A (compareOp .Eq (.str (so a) u) (.str (so b) v)) Q E s := eq_str (by rw [beq_so]; exact hq)
theorem o_nes {a b : List Nat} (hq : Q (.bool (a != b)) s) : wpAny (model prog w) A (compareOp .NotEq (.str (so a) u) (.str (so b) v)) Q E s := ne_str (by show Q (.bool (!(so a == so b))) s; rw [beq_so]; exact hq)
abbrev tupO (vs : List Value) : Obj := { cls := .type "tuple", data := .seq vs.toArray }
theorem e_sub {M : Model} {value slice : Expr} (hq : wpAny M A (eval value env) (fun o s₁ => wpAny M A (eval slice env) (fun i s₂ => wpAny M A (subscriptTail value slice o i) Q E s₂) E s₁) E s) :
    wpAny M A (eval (.Subscript value slice pos) env) Q E s := Subscript_ hq
theorem i_tup {value slice : Expr} {tt : Addr} {vs : List Value} {k : Nat} {x : Value} (S : St g L m news h) (ht : (tt, tupO vs) ∈ news) (hx : vs[k]? = some x) (hk : k < 2 ^ 40)
    (hs : subscripted slice false (.ref tt) (.int (k : Nat) u) = operate [.ref tt, .int (k : Nat) u] (getItem (.ref tt) (.int (k : Nat) u))) (hg : ∀ r, letTemporaryGo value (.ref tt) r = pure ()) (hq : Q x (sh s h t)) :
    wpAny (model prog w) A (subscriptTail value slice (.ref tt) (.int (k : Nat) u)) Q E (sh s h t) := by
  have hlt : k < vs.length := (List.getElem?_eq_some_iff.mp hx).1
  refine item_tuple (s := sh s h t) (items := vs.toArray) (j := k) ⟨_, (S.N _ ht).1, rfl, _, rfl⟩ (by omega) (by omega) ?_ (by simpa using hx) hq hs hg
  unfold seqIndex?
  simp only [List.size_toArray]
  have h0 : ¬ ((k : Int) < 0) := by omega
  simp [h0, hlt]
theorem i_list {value slice : Expr} {l : Addr} {vs : Array Value} {n k : Nat} {x : Value} (S : St g L m news h) (ht : (l, W.listOf vs n) ∈ news) (hx : vs[k]? = some x) (hk : k < 2 ^ 40)
    (hs : subscripted slice false (.ref l) (.int (k : Nat) u) = operate [.ref l, .int (k : Nat) u] (getItem (.ref l) (.int (k : Nat) u))) (hg : ∀ r, letTemporaryGo value (.ref l) r = pure ()) (hq : Q x (sh s h t)) :
    wpAny (model prog w) A (subscriptTail value slice (.ref l) (.int (k : Nat) u)) Q E (sh s h t) :=
  item_list (s := sh s h t) (S.isList ht) (by omega) (by omega) (by simpa using hx) hq hs hg
/-- a slice of all -/
abbrev sliceO : Obj := { cls := .type "slice", data := .fields #[.none, .none, .none] }
theorem e_slice0 {p : Pos} (S : St g L m news h) (hq : ∀ sl h', (∀ p ∈ news, p.1 < sl) → St g L m ((sl, sliceO) :: news) h' → Q (.ref sl) (sh s h' t)) :
    wpAny (model prog w) A (eval (.Slice none none none p) env) Q E (sh s h t) := by
  rw [arm_eval_Slice]
  refine wpAny_bind (wpAny_of_eq (a := .none) rfl (wpAny_bind (wpAny_holding (wpAny_of_eq (a := .none) rfl (wpAny_bind (wpAny_holding (wpAny_of_eq (a := .none) rfl ?_)))))))
  simp only [newFields]
  refine wpAny_newObj_type ?_ (by size_fits)
  exact hq _ _ S.lt (S.push (o := sliceO) rfl)
theorem set_slice0 {l l2 sl : Addr} {arr arr2 : Array Value} {n n2 : Nat} {R : Unit → Shared → Prop} (S : St g L m ((l, W.listOf arr n) :: news) h) (hl : ∀ p ∈ news, p.1 ≠ l) (h2 : (l2, W.listOf arr2 n2) ∈ news) (hsl : (sl, sliceO) ∈ news) (hz : arr.size + arr2.size ≤ sizeLine)
    (hq : ∀ h' n', St g L m ((l, W.listOf arr2 n') :: news) h' → R () (sh s h' t)) : wpAny (model prog w) A (setItem (.ref l) (.ref sl) (.ref l2)) R E (sh s h t) := by
  have ho := (S.N _ (.head _)).1
  have ho2 := (S.N _ (.tail _ h2)).1
  have hos := (S.N _ (.tail _ hsl)).1
  have hT : (sh s h t).TypeIs (.ref l) "list" := ⟨_, ho, rfl⟩
  have hT2 : (sh s h t).TypeIs (.ref l2) "list" := ⟨_, ho2, rfl⟩
  have hTs : (sh s h t).TypeIs (.ref sl) "slice" := ⟨_, hos, rfl⟩
  unfold setItem
  try with_reducible refine wpAny_holding ?_
  first | refine wpAny_bind (wpAny_pure ?_) | skip
  refine wpAny_bind (wpAny_sequenceKey hT (by decide) ?_)
  refine wpAny_bind (wpAny_callSpecial?_slot (name := Str.ofString "__setitem__") hT F.slot_list_setitem
    (wpAny_call_entry F.slot_list_setitem hT F.entry_list_setitem ?_ (F.args_list_setitem_3 _ _ _)))
  show wpAny _ _ (Builtin.List.listSubscript? (.ref sl) >>= _) _ _ _
  refine wpAny_bind ?_
  unfold Builtin.List.listSubscript?
  refine wpAny_bind (wpAny_specialOf hTs slice_no_index ?_)
  simp only [Option.isNone_none, if_true]
  refine wpAny_pure ?_
  show wpAny _ _ (typeOf (.ref sl) >>= _) _ _ _
  refine wpAny_bind (wpAny_typeOf hTs ?_)
  rw [if_neg (by decide)]
  rw [listSliceParts_eq]
  refine wpAny_bind (wpAny_bind (wpAny_field hos rfl (x := .none) rfl (wpAny_bind (wpAny_listPart .none ?_))))
  rw [if_neg (show ¬ ((rawPart none == rawInt 0) = true) from Bool.false_ne_true)]
  refine wpAny_bind (wpAny_field hos rfl (x := .none) rfl (wpAny_bind (wpAny_listPart .none ?_)))
  refine wpAny_bind (wpAny_field hos rfl (x := .none) rfl (wpAny_bind (wpAny_listPart .none (wpAny_pure ?_))))
  have hne : l ≠ l2 := fun e => hl _ h2 e.symm
  have hns : Builtin.List.listSameRef (.ref l) (.ref l2) = false := by
    show (l == l2) = false
    simpa using hne
  rw [hns, if_neg Bool.false_ne_true]
  refine wpAny_bind ?_
  unfold Builtin.List.listAllItems
  refine wpAny_bind (wpAny_typeOf hT2 ?_)
  rw [if_pos (by decide)]
  unfold Builtin.List.listItems
  refine wpAny_bind (wpAny_seqItems ho2 rfl (wpAny_pure ?_))
  refine wpAny_bind (wpAny_bind (wpAny_seqItems ho rfl (wpAny_pure ?_)))
  refine wpAny_bind (wpAny_of_eq (sliceIndices_raw none none none arr.size (by simp)) ?_)
  rw [if_pos (show ((sliceBounds none none none arr.size).2.snd == 1) = true from rfl)]
  refine wpAny_bind (wpAny_rule ?_)
  have hz' : Builtin.List.listTooLong (arr.size + arr2.size) = false := by
    unfold Builtin.List.listTooLong
    simp; omega
  rw [hz', if_neg Bool.false_ne_true]
  unfold Builtin.List.listUpdate
  have hfin : (sliceBounds none none none arr.size).1.toNat = 0 := rfl
  have hfin2 : (max (sliceBounds none none none arr.size).1 (sliceBounds none none none arr.size).2.1).toNat = arr.size := by
    show (max 0 (arr.size : Int)).toNat = arr.size
    omega
  rw [hfin, hfin2]
  dsimp only
  have hxx : arr.extract 0 0 ++ arr2 ++ arr.extract arr.size arr.size = arr2 := by simp
  refine wpAny_bind (wpAny_updateSeq ho rfl ?_ (by omega) (by rw [hxx]; omega))
  refine wpAny_bind (wpAny_letGo (wpAny_pure ⟨.none, rfl, wpAny_pure ?_⟩))
  obtain ⟨n', hob⟩ : ∃ n', Obj.mapSeq (fun xs => xs.extract 0 0 ++ arr2 ++ xs.extract arr.size xs.size) (W.listOf arr n) = W.listOf arr2 n' := ⟨_, by unfold Obj.mapSeq; dsimp only; rw [hxx]⟩
  refine hq _ n' (S.turn hl (Heap.SameBut.update ..) ?_)
  rw [Heap.get?_update_self _ ho (by rw [hob]; rfl)]
  exact congrArg some hob
end
end
noncomputable section
def RowAt (news : List (Addr × Obj)) (v : Value) (kv : List Nat × List Nat) : Prop := ∃ t u₁ u₂, v = .ref t ∧ (t, tupO [.str (so kv.1) u₁, .str (so kv.2) u₂]) ∈ news
def Tab (news : List (Addr × Obj)) (arr : Array Value) (kvs : List (List Nat × List Nat)) : Prop := Paired (RowAt news) arr.toList kvs
theorem RowAt.mono {news news' : List (Addr × Obj)} {v : Value} {kv : List Nat × List Nat} (x : RowAt news v kv) (hs : ∀ p ∈ news, p ∈ news') : RowAt news' v kv := let ⟨t, u₁, u₂, e, hm⟩ := x; ⟨t, u₁, u₂, e, hs _ hm⟩
theorem Paired.monoF {α β : Type} {F G : α → β → Prop} {l₁ : List α} {l₂ : List β} (x : Paired F l₁ l₂) (hs : ∀ a b, F a b → G a b) : Paired G l₁ l₂ := by
  induction x with
  | nil => exact .nil
  | cons h _ ih => exact .cons (hs _ _ h) ih
theorem Tab.mono {news news' : List (Addr × Obj)} {arr : Array Value} {kvs : List (List Nat × List Nat)} (x : Tab news arr kvs) (hs : ∀ p ∈ news, p ∈ news') : Tab news' arr kvs := Paired.monoF x fun _ _ r => RowAt.mono r hs
theorem Paired.len {α β : Type} {F : α → β → Prop} {l₁ : List α} {l₂ : List β} (x : Paired F l₁ l₂) : l₁.length = l₂.length := by
  induction x with
  | nil => rfl
  | cons _ _ ih => simp [ih]
theorem Tab.size {news : List (Addr × Obj)} {arr : Array Value} {kvs : List (List Nat × List Nat)} (x : Tab news arr kvs) : arr.size = kvs.length := by
  have := Paired.len x
  simpa using this
theorem Paired.at_ {α β : Type} {F : α → β → Prop} {l₁ : List α} {l₂ : List β} (x : Paired F l₁ l₂) : ∀ (i : Nat) (a : α), l₁[i]? = some a → ∃ b, l₂[i]? = some b ∧ F a b := by
  induction x with
  | nil => intro i a h; simp at h
  | cons h _ ih =>
    intro i a e
    cases i with
    | zero => simp at e; subst e; exact ⟨_, rfl, h⟩
    | succ i => exact ih i a (by simpa using e)
theorem Tab.at_ {news : List (Addr × Obj)} {arr : Array Value} {kvs : List (List Nat × List Nat)} (x : Tab news arr kvs) {i : Nat} {v : Value} (h : arr[i]? = some v) : ∃ kv, kvs[i]? = some kv ∧ RowAt news v kv :=
  Paired.at_ x i v (by simpa using h)
/-- one tuple holds one row -/
theorem RowAt.uniq {g h : Heap} {L : Addr} {m : Str → Option Value} {news : List (Addr × Obj)} (S : St g L m news h) {v : Value} {kv kv' : List Nat × List Nat} (x : RowAt news v kv) (y : RowAt news v kv') : kv = kv' := by
  obtain ⟨t, u₁, u₂, rfl, hm⟩ := x
  obtain ⟨t', u₁', u₂', e, hm'⟩ := y
  cases e
  have e := (S.N _ hm).1.symm.trans (S.N _ hm').1
  simp only [Option.some.injEq, Obj.mk.injEq, Data.seq.injEq] at e
  have e := e.2.2.1.1
  simp at e
  exact Prod.ext e.1.1 e.2.1
open Classical in
def keyP (news : List (Addr × Obj)) (P : List Nat × List Nat → Bool) (v : Value) : Bool := decide (∃ kv, RowAt news v kv ∧ P kv = true)
open Classical in
theorem keyP_eq {g h : Heap} {L : Addr} {m : Str → Option Value} {news : List (Addr × Obj)} (S : St g L m news h) {P : List Nat × List Nat → Bool} {v : Value} {kv : List Nat × List Nat} (x : RowAt news v kv) : keyP news P v = P kv := by
  unfold keyP
  by_cases hp : P kv = true
  · rw [hp]; exact decide_eq_true ⟨kv, x, hp⟩
  · rw [Bool.eq_false_iff.mpr hp]
    refine decide_eq_false ?_
    rintro ⟨kv', y, hp'⟩
    rw [RowAt.uniq S y x] at hp'
    exact hp hp'
theorem tab_filter {g h : Heap} {L : Addr} {m : Str → Option Value} {news : List (Addr × Obj)} (S : St g L m news h) (P : List Nat × List Nat → Bool) {l : List Value} {kvs : List (List Nat × List Nat)} (x : Paired (RowAt news) l kvs) :
    Paired (RowAt news) (l.filter (keyP news P)) (kvs.filter P) := by
  induction x with
  | nil => exact .nil
  | @cons a b l₁ l₂ h _ ih =>
    rw [List.filter_cons, List.filter_cons, keyP_eq S h]
    cases P b with
    | true => exact .cons h ih
    | false => exact ih
theorem paired_eq {l ys : List Value} (x : Paired (fun v y => y = v) l ys) : ys = l := by
  induction x with
  | nil => rfl
  | cons h _ ih => rw [h, ih]
theorem paired_vals {news : List (Addr × Obj)} {l ys : List Value} {kvs : List (List Nat × List Nat)} (x : Paired (RowAt news) l kvs) (y : Paired (fun v y => ∀ kv, RowAt news v kv → ∃ u, y = .str (so kv.2) u) l ys) : StrsAre ys (kvs.map fun kv => so kv.2) := by
  induction x generalizing ys with
  | nil => cases y; exact .nil
  | cons h _ ih =>
    cases y with
    | cons h' r =>
      obtain ⟨u, rfl⟩ := h' _ h
      exact .cons _ _ (ih r)
theorem low_rng {l : List Nat} (h : ∀ c ∈ l, 33 ≤ c ∧ c < 128) : ∀ c ∈ l.map low, 33 ≤ c ∧ c < 128 := by
  intro c hc
  obtain ⟨d, hd, rfl⟩ := List.mem_map.mp hc
  have := h d hd
  unfold low
  split <;> omega
theorem low_127 (l : List Nat) : 127 ∈ l.map low ↔ 127 ∈ l := by
  constructor
  · intro h
    obtain ⟨d, hd, e⟩ := List.mem_map.mp h
    unfold low at e
    split at e
    · omega
    · rw [← e]; exact hd
  · intro h
    exact List.mem_map.mpr ⟨127, h, rfl⟩
theorem Rs_sub {base G : Heap} {l : List Env} {e : Addr} {cls : Value} {news news' : List (Addr × Obj)} {h : Heap} (R : RaisedSN base G l e cls news h) (hs : ∀ p ∈ news', p ∈ news) : RaisedSN base G l e cls news' h :=
  let ⟨B, a0, h1, h2, h3, h4⟩ := R
  ⟨B, a0, h1, h2, fun q hq => h3 q (hs q hq), h4⟩
section
variable {prog : Program} {w : World} {A : Around} {E : Value → Shared → Prop} {s : Shared} {h : Heap} {t : Nat} {g : Heap} {L : Addr} {m : Str → Option Value} {news : List (Addr × Obj)} {env : Env} {pos : Pos} {u v : Tok} {Q : Value → Shared → Prop}
  {cn : Str} {cs : Scope} {a : Addr} {ccd : Value} {cl : List (Str × Addr)}
theorem x_storeC {M : Model} {x : Str} {v : Value} {v₀ : Option Value} {c : Addr} {o : Obj} {Q : Unit → Shared → Prop} (S : St g L m ((c, o) :: news) h) (hn : ∀ p ∈ news, p.1 ≠ c) (hc : cl.lookup x = some c) (hd : o.data = .cell v₀)
    (hk : cs.kind = .function) (hx : (envX cn cs L a ccd cl).kindOf x = some .cell)
    (hq : ∀ h' o', St g L m ((c, o') :: news) h' → o'.data = .cell (some v) → Q () (sh s h' t)) : wpAny M A (storeName (envX cn cs L a ccd cl) x v) Q E (sh s h t) := by
  have hmem := S.N (c, o) (.head _)
  refine wpAny_storeName_cell hk hx hc ⟨o, hmem.1, hd⟩ fun h' hv hs => ?_
  obtain ⟨o', ho', hd'⟩ := hv
  exact hq h' o' (S.turn hn hs ho') hd'
theorem x_assignAny {M : Model} {x : Str} {px pos : Pos} {e : Expr} {rest : List Stmt} {Q : Flow → Shared → Prop}
    (hs : swapsWith e (some (.Name x px)) pos.line env = pure false)
    (hq : wpAny M A (eval e env) (fun v s₁ => wpAny M A (storeName env x v) (fun _ s₂ => wpAny M A (execs rest env) Q E s₂) E s₁) E s) :
    wpAny M A (execs (.Assign [.Name x px] e pos :: rest) env) Q E s := wpAny_execs_cons (wpAny_Assign_Name hq hs)
theorem x_assignSub {M : Model} {o i : Expr} {pos' pos : Pos} {e : Expr} {rest : List Stmt} {Q : Flow → Shared → Prop} (hs : swapsWith e (some (.Subscript o i pos')) pos.line env = pure false)
    (hq : wpAny M A (eval e env) (fun v s₁ => wpAny M A (eval o env) (fun ov s₂ => wpAny M A (eval i env) (fun iv s₃ => wpAny M A (setItem ov iv v) (fun _ s₄ => wpAny M A (execs rest env) Q E s₄) E s₃) E s₂) E s₁) E s) :
    wpAny M A (execs (.Assign [.Subscript o i pos'] e pos :: rest) env) Q E s := wpAny_execs_cons (wpAny_Assign_Subscript hq hs)
end
end
local macro_rules | `(tactic| walk_at "W8") => `(tactic| first
  | (with_reducible refine' e_sub ?_)
  | ((with_reducible refine' e_slice0 ?S ?_); (case S => assumption); intro _ _ _ _)
  | ((with_reducible refine' x_assignSub ?hs ?_); (case hs => exact rfl))
  | ((with_reducible refine' o_eqs ?_))
  | ((with_reducible refine' o_nes ?_))
  | fail)
noncomputable section
theorem del_fn : ∀ (w : World) (x dx lst : Addr) (hv : Int) (tk : Tok) (nn : Nat) (k : List Nat) (hk : ∀ c ∈ k, 33 ≤ c ∧ c < 128) (hkz : k.length ≤ 1000) (u : Tok) (arr : Array Value) (n : Nat) (kvs : List (List Nat × List Nat)) (news : List (Addr × Obj))
    (hx : (x, instObj 182 dx) ∈ news) (hdx : (dx, hdD hv tk lst nn) ∈ news) (hlst : ∀ p ∈ news, p.1 ≠ lst) (ht : Tab news arr kvs) (hz : kvs.length ≤ 1000) (hkv : ∀ kv ∈ kvs, kv.1.length ≤ 1000 ∧ ∀ c ∈ kv.1, c < 128),
    FnR w 2 102 [.ref x, .str (so k) u] [] "ValueError" ((lst, W.listOf arr n) :: news) (fun v news' => v = .none ∧ 127 ∉ k ∧ ∃ arr' n', news' = (lst, W.listOf arr' n') :: news ∧ Tab news arr' (kvs.filter fun kv => kv.1.map low != k.map low)) (fun news' => news' = (lst, W.listOf arr n) :: news ∧ 127 ∈ k) := by
  intro w x dx lst hv tk nn k hk hkz u arr n kvs news hx hdx hlst ht hz hkv
  intro p loose mean mg mb dp un gd cn cs L a ccd cl outer A₀ base g m s h t Q E C S hd hu hret hraise
  refine' call_fnC [(Str.ofString "self", Value.ref x), (Str.ofString "name", Value.str (so k) u)] C S ?k6 ?k7 ?k8 ?k9 ?kB ?c2 ?c3 ?c4 ?c5 ?_
  case k6 => k_is
  case k7 => k_is
  case k8 => omega
  case k9 => exact BindsTo.of_eq rfl
  case kB => exact rfl
  case c2 => exact rfl
  case c3 => exact rfl
  case c4 => exact rfl
  case c5 => decide
  intro g' L' h' t' cells FG S' Y C' hlt
  obtain ⟨o, rfl, ho⟩ := CellsAre.one Y
  walk_at "V"
  have hcN : ∀ p ∈ (lst, W.listOf arr n) :: news, p.1 ≠ L' + 1 := fun p hp => Nat.ne_of_lt (Nat.lt_succ_of_lt (hlt p hp))
  refine e_cell (v := .str (so k) u) S' (c := L' + 1) (o := o) rfl (.head _) ho rfl rfl (by decide) ?_
  walk_at "V"
  refine c_lower (fun c hc => (hk c hc).2) (by omega) fun u₁ t₁ => ?_
  walk_at "V"
  refine conv_fn w x (k.map low) (low_rng hk) (by simp; omega) true u₁ _ C' S' (by walk_at "RM") (by walk_at "RM") ?_ ?_
  rotate_left
  · rintro e g₁ news' h₁ t₂ F₁ R hsm ⟨rfl, h127⟩
    refine xl_on C'.B F₁ R hsm fun h₂ R' hsm' => ?_
    exact hraise _ _ _ _ _ FG (Rs_sub R' fun p hp => .tail _ hp) hsm' ⟨rfl, (low_127 k).mp h127⟩
  rintro v news' h₁ t₂ S₁ ⟨rfl, rfl, h127⟩
  walk_at "V"
  refine x_storeC S₁ hcN rfl ho rfl rfl fun h₂ o' S₂ ho' => ?_
  walk_at "V"
  refine' e_comp (keyP news fun kv => kv.1.map low != k.map low) (fun v y => y = v) rfl (by decide) rfl (by decide) rfl (fun _ => rfl) ?_
  walk_at "V"
  have hts : arr.size ≤ 1000 := by rw [ht.size]; omega
  refine comp_list rfl S₂ (S₂.isList (.tail _ (.head _))) (by rw [sizeLine_eq]; omega) (fun C i v s' h₃ t₃ mC E' hv S₃ hn hm => ?_) (fun C i v s' h₃ t₃ mC E' hv hp S₃ hn hm => ?_) ?_
  · refine wpAny_tests_one ?_
    obtain ⟨kv, hkvi, hrow⟩ := ht.at_ hv
    have hP := keyP_eq (S₃.sub fun p hp => .tail _ (.tail _ hp)) (P := fun kv => kv.1.map low != k.map low) hrow
    obtain ⟨hlen, hrng⟩ := hkv kv (List.mem_of_getElem? hkvi)
    obtain ⟨tt, u₁', u₂', rfl, htm⟩ := hrow
    rw [hP]
    walk_at "V"
    refine i_tup (k := 0) S₃ (.tail _ (.tail _ htm)) rfl (by decide) rfl (fun _ => rfl) ?_
    walk_at "V"
    refine c_lower hrng (by omega) fun u₄ t₄ => ?_
    refine e_cell (v := .str (so (k.map low)) u₁) S₃ (c := L' + 1) (o := o') rfl (.head _) ho' rfl rfl (by decide) ?_
    walk_at "V"
    exact ⟨rfl, h₃, t₄, rfl, fun _ _ e => e⟩
  · walk_at "V"
    exact ⟨rfl, h₃, t₃, rfl, fun _ _ e => e⟩
  · intro D h₃ t₃ ys nD S₃ hneD hk₃ hp
    have hys := paired_eq hp
    have htf := tab_filter (S₃.sub (news' := news) fun p hp => .tail _ (.tail _ (.tail _ hp))) (fun kv => kv.1.map low != k.map low) ht
    rw [← hys] at htf
    have hfl : (kvs.filter fun kv => kv.1.map low != k.map low).length ≤ kvs.length := List.length_filter_le _ _
    have hysz : ys.size ≤ 1000 := by have := Paired.len htf; simp at this; omega
    walk_at "V"
    rename_i t₄ sl h₄ hsl S₄
    refine set_slice0 (news := (sl, sliceO) :: (D, W.listOf ys nD) :: news) (arr := arr) (n := n) (arr2 := ys) (n2 := nD) (S₄.sub ?hs) ?hl (.tail _ (.head _)) (.head _) ?hz fun h₅ n₅ S₅ => ?_
    case hs =>
      rintro p (_ | ⟨_, _ | ⟨_, _ | ⟨_, hp⟩⟩⟩)
      · exact .tail _ (.tail _ (.tail _ (.head _)))
      · exact .head _
      · exact .tail _ (.head _)
      · exact .tail _ (.tail _ (.tail _ (.tail _ hp)))
    case hl =>
      rintro p (_ | ⟨_, _ | ⟨_, hp⟩⟩)
      · exact Ne.symm (Nat.ne_of_lt (hsl _ (.tail _ (.tail _ (.head _)))))
      · exact Ne.symm (hneD _ (.tail _ (.head _)))
      · exact hlst p hp
    case hz => rw [sizeLine_eq]; omega
    walk_at "V"
    refine leave_n (S₅.sub (news' := (lst, W.listOf ys n₅) :: news) ?_) fun S₆ => hret _ _ _ _ S₆ ⟨rfl, fun h127' => h127 ((low_127 k).mpr h127'), ys, n₅, rfl, htf⟩
    rintro p (_ | ⟨_, hp⟩)
    · exact .head _
    · exact .tail _ (.tail _ (.tail _ hp))
end
noncomputable section
theorem all_fn : ∀ (w : World) (x dx lst : Addr) (hv : Int) (tk : Tok) (nn : Nat) (k : List Nat) (hk : ∀ c ∈ k, 33 ≤ c ∧ c < 128) (hkz : k.length ≤ 1000) (u : Tok) (arr : Array Value) (n : Nat) (kvs : List (List Nat × List Nat)) (news : List (Addr × Obj))
    (hx : (x, instObj 182 dx) ∈ news) (hdx : (dx, hdD hv tk lst nn) ∈ news) (hlst : (lst, W.listOf arr n) ∈ news) (ht : Tab news arr kvs) (hz : kvs.length ≤ 1000) (hkv : ∀ kv ∈ kvs, kv.1.length ≤ 1000 ∧ ∀ c ∈ kv.1, c < 128),
    FnR w 2 121 [.ref x, .str (so k) u] [] "ValueError" news (fun v news' => 127 ∉ k ∧ ∃ D ys nD, v = .ref D ∧ news' = (D, W.listOf ys nD) :: news ∧ (∀ p ∈ news, p.1 ≠ D) ∧ StrsAre ys.toList ((kvs.filter fun kv => kv.1.map low == k.map low).map fun kv => so kv.2)) (fun news' => news' = news ∧ 127 ∈ k) := by
  intro w x dx lst hv tk nn k hk hkz u arr n kvs news hx hdx hlst ht hz hkv
  intro p loose mean mg mb dp un gd cn cs L a ccd cl outer A₀ base g m s h t Q E C S hd hu hret hraise
  refine' call_fnC [(Str.ofString "self", Value.ref x), (Str.ofString "name", Value.str (so k) u)] C S ?k6 ?k7 ?k8 ?k9 ?kB ?c2 ?c3 ?c4 ?c5 ?_
  case k6 => k_is
  case k7 => k_is
  case k8 => omega
  case k9 => exact BindsTo.of_eq rfl
  case kB => exact rfl
  case c2 => exact rfl
  case c3 => exact rfl
  case c4 => exact rfl
  case c5 => decide
  intro g' L' h' t' cells FG S' Y C' hlt
  obtain ⟨o, rfl, ho⟩ := CellsAre.one Y
  walk_at "V"
  have hcN : ∀ p ∈ news, p.1 ≠ L' + 1 := fun p hp => Nat.ne_of_lt (Nat.lt_succ_of_lt (hlt p hp))
  refine e_cell (v := .str (so k) u) S' (c := L' + 1) (o := o) rfl (.head _) ho rfl rfl (by decide) ?_
  walk_at "V"
  refine c_lower (fun c hc => (hk c hc).2) (by omega) fun u₁ t₁ => ?_
  walk_at "V"
  refine conv_fn w x (k.map low) (low_rng hk) (by simp; omega) true u₁ _ C' S' (by walk_at "RM") (by walk_at "RM") ?_ ?_
  rotate_left
  · rintro e g₁ news' h₁ t₂ F₁ R hsm ⟨rfl, h127⟩
    refine xl_on C'.B F₁ R hsm fun h₂ R' hsm' => ?_
    exact hraise _ _ _ _ _ FG (Rs_sub R' fun p hp => .tail _ hp) hsm' ⟨rfl, (low_127 k).mp h127⟩
  rintro v news' h₁ t₂ S₁ ⟨rfl, rfl, h127⟩
  walk_at "V"
  refine x_storeC S₁ hcN rfl ho rfl rfl fun h₂ o' S₂ ho' => ?_
  walk_at "V"
  refine' e_comp (keyP news fun kv => kv.1.map low == k.map low) (fun v y => ∀ kv, RowAt news v kv → ∃ u, y = .str (so kv.2) u) rfl (by decide) rfl (by decide) rfl (fun _ => rfl) ?_
  walk_at "V"
  have hts : arr.size ≤ 1000 := by rw [ht.size]; omega
  refine comp_list rfl S₂ (S₂.isList (.tail _ hlst)) (by rw [sizeLine_eq]; omega) (fun C i v s' h₃ t₃ mC E' hv S₃ hn hm => ?_) (fun C i v s' h₃ t₃ mC E' hv hp S₃ hn hm => ?_) ?_
  · refine wpAny_tests_one ?_
    obtain ⟨kv, hkvi, hrow⟩ := ht.at_ hv
    have hP := keyP_eq (news := news) (S₃.sub fun p hp => .tail _ hp) (P := fun kv => kv.1.map low == k.map low) hrow
    obtain ⟨hlen, hrng⟩ := hkv kv (List.mem_of_getElem? hkvi)
    obtain ⟨tt, u₁', u₂', rfl, htm⟩ := hrow
    rw [hP]
    walk_at "V"
    refine i_tup (k := 0) S₃ (.tail _ htm) rfl (by decide) rfl (fun _ => rfl) ?_
    walk_at "V"
    refine c_lower hrng (by omega) fun u₄ t₄ => ?_
    refine e_cell (v := .str (so (k.map low)) u₁) S₃ (c := L' + 1) (o := o') rfl (.head _) ho' rfl rfl (by decide) ?_
    walk_at "V"
    exact ⟨rfl, h₃, t₄, rfl, fun _ _ e => e⟩
  · obtain ⟨kv, hkvi, hrow⟩ := ht.at_ hv
    have huq : ∀ kv', RowAt news v kv' → kv' = kv := fun kv' y => RowAt.uniq (news := news) (S₃.sub fun p hp => .tail _ hp) y hrow
    obtain ⟨tt, u₁', u₂', rfl, htm⟩ := hrow
    walk_at "V"
    refine i_tup (k := 1) S₃ (.tail _ htm) rfl (by decide) rfl (fun _ => rfl) ?_
    exact ⟨fun kv' y => ⟨u₂', by rw [huq kv' y]⟩, h₃, _, rfl, fun _ _ e => e⟩
  · intro D h₃ t₃ ys nD S₃ hneD hk₃ hp
    have htf := tab_filter (S₃.sub (news' := news) fun p hp => .tail _ (.tail _ hp)) (fun kv => kv.1.map low == k.map low) ht
    walk_at "V"
    refine leave_r (S₃.sub (news' := (D, W.listOf ys nD) :: news) ?_) fun S₄ => hret _ _ _ _ S₄ ⟨fun h127' => h127 ((low_127 k).mpr h127'), D, ys, nD, rfl, rfl, fun p hp => hneD p (.tail _ hp), paired_vals htf hp⟩
    rintro p (_ | ⟨_, hp⟩)
    · exact .head _
    · exact .tail _ (.tail _ hp)
end
noncomputable section
section
variable {prog : Program} {w : World} {A : Around} {E : Value → Shared → Prop} {s : Shared} {h : Heap} {t : Nat} {g : Heap} {L : Addr} {m : Str → Option Value} {news : List (Addr × Obj)} {env : Env} {pos : Pos} {u v : Tok}
theorem a_pair {a b : Str} {pa pb : Pos} {k : Nat} {tt : Addr} {x y : Value} {Q : Unit → Shared → Prop} (hh : A.handled = none) (S : St g L m news h) (ht : (tt, tupO [x, y]) ∈ news)
    (hq : ∀ h', St g L m news h' → wpAny (model prog w) A (storeName env a x) (fun _ s₁ => wpAny (model prog w) A (storeName env b y) Q E s₁) E (sh s h' t)) :
    wpAny (model prog w) A (assign (.Tuple [.Name a pa, .Name b pb] k pos) env (.ref tt)) Q E (sh s h t) := by
  refine assign_Tuple_tuple (s := sh s h t) hh (items := #[x, y]) ⟨_, (S.N _ ht).1, rfl, _, rfl⟩ rfl rfl fun h' he => ?_
  have S' : St g L m news h' := S.keeps fun b o e => he b o (Nat.ne_of_lt (Heap.lt_size e)) e
  refine assignInOrder_cons (wpAny_assign_Name (wpAny_mono (hq h' S') (fun _ s₁ q => ?_) fun _ _ e => e))
  exact assignInOrder_cons (wpAny_assign_Name (wpAny_mono q (fun _ s₂ q => assignInOrder_nil q) fun _ _ e => e))
theorem tgt_pair {elts : List Expr} {k : Nat} {l : Addr} {vs : Array Value} (hv : ∀ (i : Nat) (v : Value), vs[i]? = some v → ∃ T, v = Value.ref T) : ∀ (it : Addr) (i : Nat) (v : Value) (s' : Shared) (Q' : Unit → Shared → Prop) (E' : Value → Shared → Prop), s'.heap.IsListIter it l i → vs[i - 1]? = some v → Q' () s' →
    wpAny (model prog w) A (letOwnedTupleGo (.Tuple elts k pos) (.ref it) v) Q' E' s' := by
  intro it i v s' Q' E' hit hx hq
  obtain ⟨T, rfl⟩ := hv _ _ hx
  exact wpAny_letOwnedTupleGo_listiter hit hq
end
end
noncomputable section
theorem find_none {α : Type} (P : α → Bool) (l : List α) : l.find? P = none ↔ ∀ (j : Nat) (a : α), l[j]? = some a → P a = false := by
  rw [List.find?_eq_none]
  constructor
  · intro h j a e
    exact Bool.eq_false_iff.mpr (h a (List.mem_of_getElem? e))
  · intro h a ha
    obtain ⟨j, hj, rfl⟩ := List.mem_iff_getElem.mp ha
    exact Bool.eq_false_iff.mp (h j _ (List.getElem?_eq_getElem hj))
theorem find_at {α : Type} (P : α → Bool) : ∀ (l : List α) (i : Nat) (a : α), l[i]? = some a → P a = true → (∀ j b, j < i → l[j]? = some b → P b = false) → l.find? P = some a
  | [], i, a, e, _, _ => by simp at e
  | b :: r, 0, a, e, hp, _ => by simp at e; subst e; simp [hp]
  | b :: r, i + 1, a, e, hp, h => by
    have hb := h 0 b (by omega) rfl
    rw [List.find?_cons, hb]
    exact find_at P r i a (by simpa using e) hp fun j c hj e' => h (j + 1) c (by omega) (by simpa using e')
theorem get_fn : ∀ (w : World) (x dx lst : Addr) (hv : Int) (tk : Tok) (nn : Nat) (k : List Nat) (hk : ∀ c ∈ k, 33 ≤ c ∧ c < 128) (hkz : k.length ≤ 1000) (u : Tok) (arr : Array Value) (n : Nat) (kvs : List (List Nat × List Nat)) (news : List (Addr × Obj))
    (hx : (x, instObj 182 dx) ∈ news) (hdx : (dx, hdD hv tk lst nn) ∈ news) (hlst : (lst, W.listOf arr n) ∈ news) (ht : Tab news arr kvs) (hz : kvs.length ≤ 1000) (hkv : ∀ kv ∈ kvs, kv.1.length ≤ 1000 ∧ ∀ c ∈ kv.1, c < 128),
    FnR w 2 129 [.ref x, .str (so k) u] [] "ValueError" news (fun v news' => 127 ∉ k ∧ news' = news ∧ match kvs.find? (fun kv => kv.1.map low == k.map low) with | some kv => ∃ u, v = .str (so kv.2) u | none => v = .none) (fun news' => news' = news ∧ 127 ∈ k) := by
  intro w x dx lst hv tk nn k hk hkz u arr n kvs news hx hdx hlst ht hz hkv
  intro p loose mean mg mb dp un gd cn cs L a ccd cl outer A₀ base g m s h t Q E C S hd hu hret hraise
  refine' call_fn2 [(Str.ofString "self", Value.ref x), (Str.ofString "name", Value.str (so k) u), (Str.ofString "default", Value.none)] C S ?k6 ?k7 ?k8 ?k9 ?kB ?c2 ?c3 ?c4 ?c5 ?_
  case k6 => k_is
  case k7 => k_is
  case k8 => omega
  case k9 => exact binds_K (C.in S) rfl (by k_is) rfl rfl rfl
  case kB => exact locs rfl
  case c2 => exact rfl
  case c3 => exact rfl
  case c4 => exact rfl
  case c5 => decide
  intro g' L' h' t' FG S' C' hlt G
  walk_at "V"
  refine c_lower (fun c hc => (hk c hc).2) (by omega) fun u₁ t₁ => ?_
  walk_at "V"
  refine conv_fn w x (k.map low) (low_rng hk) (by simp; omega) true u₁ _ C' S' (by walk_at "RM") (by walk_at "RM") ?_ ?_
  rotate_left
  · rintro e g₁ news' h₁ t₂ F₁ R hsm ⟨rfl, h127⟩
    refine xl_on C'.B F₁ R hsm fun h₂ R' hsm' => ?_
    exact hraise _ _ _ _ _ FG R' hsm' ⟨rfl, (low_127 k).mp h127⟩
  rintro v news' h₁ t₂ S₁ ⟨rfl, rfl, h127⟩
  have h127' : 127 ∉ k := fun q => h127 ((low_127 k).mpr q)
  walk_at "V"
  rename_i h₂ t₃ S₂ t₄
  refine for_list rfl rfl (tgt_pair fun i v e => ?hr) S₂ (fun i m₁ n₁ => n₁ = news' ∧ (∀ j kv, j < i → kvs[j]? = some kv → (kv.1.map low == k.map low) = false) ∧ m₁ (Str.ofString "name") = some (.str (so (k.map low)) u₁) ∧ m₁ (Str.ofString "default") = some .none) ⟨rfl, fun j _ hj => by omega, rfl, rfl⟩ (fun i m₁ n₁ h₁ hJ S => S.isList (vs := arr) (n := n) (by rw [hJ.1]; exact hlst)) ?turn ?done (by passes_own)
  case hr =>
    obtain ⟨kv, _, tt, _, _, rfl, _⟩ := ht.at_ e
    exact ⟨tt, rfl⟩
  case turn =>
    rintro i v m₁ n₁ h₃ t₃ I oI hv ⟨rfl, hno, e1, e2⟩ hI S₃
    obtain ⟨kv, hkvi, tt, u₁', u₂', rfl, htm⟩ := ht.at_ hv
    obtain ⟨hlen, hrng⟩ := hkv kv (List.mem_of_getElem? hkvi)
    refine a_pair rfl S₃ (.tail _ htm) fun h₄ S₄ => ?_
    walk_at "V"
    refine c_lower hrng (by omega) fun u₄ t₄ => ?_
    walk_at "V"
    refine ⟨fun hb => ?_, fun hb => ?_⟩
    · walk_at "V"
      rename_i S₅
      refine turn_ret (leave_r (S₅.sub (news' := n₁) fun p hp => .tail _ hp) fun S₆ => hret _ _ _ _ S₆ ⟨h127', rfl, ?_⟩)
      rw [find_at _ kvs i kv hkvi hb hno]
      exact ⟨_, rfl⟩
    · walk_at "V"
      rename_i S₅
      refine turn_next _ S₅ (.head _) (fun p hp => .tail _ hp) hI ⟨rfl, fun j kv' hj e => ?_, e1, e2⟩
      by_cases hji : j = i
      · subst hji
        rw [hkvi] at e
        cases e
        exact hb
      · exact hno j kv' (by omega) e
  case done =>
    rintro m₁ n₁ h₃ t₃ ⟨rfl, hno, e1, e2⟩ S₃
    walk_at "V"
    refine leave_r S₃ fun S₆ => hret _ _ _ _ S₆ ⟨h127', rfl, ?_⟩
    rw [(find_none _ kvs).mpr fun j a e => hno j a (by rw [ht.size]; exact (List.getElem?_eq_some_iff.mp e).1) e]
end
noncomputable section
section
variable {w : World} {A : Around} {E : Value → Shared → Prop} {s : Shared} {h : Heap} {t : Nat} {g : Heap} {L : Addr} {m : Str → Option Value} {news : List (Addr × Obj)} {env : Env}
  {cn : Str} {cs : Scope} {a : Addr} {ccd : Value} {cl : List (Str × Addr)} {p : Program} {loose : List Str} {mean : ExcName → Option Value} {mg mb : Str → Option Value} {outer : List Env} {A₀ : Around} {base : Heap}
  {pos : Pos} {Q : Value → Shared → Prop}
theorem del_inst {x dx lst : Addr} {hv : Int} {tk : Tok} {n : Nat} {f : Addr} {i : Value} {R : Unit → Shared → Prop} (C : Cx w p loose mean mg mb cs outer A₀ base g) (S : St g L m news h) (hx : (x, instObj 182 dx) ∈ news) (hdx : (dx, hdD hv tk lst n) ∈ news)
    (hq : noSeq (hd.heap_39 w.params) 182 = true) (hs : findIn (hd.heap_39 w.params) (.ref 182) "__delitem__" = some (some (.ref f))) (hf : isFn (hd.heap_39 w.params) (.ref f) = true)
    (hc : wpAny (model (PySem.Challenge.rw_pm0042_01.row.prog) w) A (call (.ref f) [.ref x, i]) (fun _ s' => R () s') E (sh s h t)) : wpAny (model (PySem.Challenge.rw_pm0042_01.row.prog) w) A (delItem (.ref x) i) R E (sh s h t) := by
  have I := InstAt.of_news S.N hx hdx
  have X := C.in S
  unfold delItem sequenceKey
  refine wpAny_holding (wpAny_bind (wpAny_bind (I.type.here ?_)))
  refine wpAny_bind ((anyM_none X hq).here ?_)
  rw [if_pos (show (!false) = true from rfl)]
  exact wpAny_pure (wpAny_bind (special_fn (s := sh s h t) X I hs (beq_iff_eq.mp hf) (wpAny_mono hc (fun _ _ z => wpAny_pure z) fun _ _ z => z)))
theorem set_inst {x dx lst : Addr} {hv : Int} {tk : Tok} {n : Nat} {f : Addr} {i v : Value} {R : Unit → Shared → Prop} (C : Cx w p loose mean mg mb cs outer A₀ base g) (S : St g L m news h) (hx : (x, instObj 182 dx) ∈ news) (hdx : (dx, hdD hv tk lst n) ∈ news)
    (hq : noSeq (hd.heap_39 w.params) 182 = true) (hs : findIn (hd.heap_39 w.params) (.ref 182) "__setitem__" = some (some (.ref f))) (hf : isFn (hd.heap_39 w.params) (.ref f) = true)
    (hc : wpAny (model (PySem.Challenge.rw_pm0042_01.row.prog) w) A (call (.ref f) [.ref x, i, v]) (fun _ s' => R () s') E (sh s h t)) : wpAny (model (PySem.Challenge.rw_pm0042_01.row.prog) w) A (setItem (.ref x) i v) R E (sh s h t) :=
  ksp_setItem (s := sh s h t) S.F C.X (InstAt.of_news S.N hx hdx) hq hs hf hc
theorem x_del {M : Model} {o i : Expr} {spos pos : Pos} {rest : List Stmt} {Q : Flow → Shared → Prop}
    (hq : wpAny M A (eval o env) (fun ov s₁ => wpAny M A (eval i env) (fun iv s₂ => wpAny M A (delItem ov iv) (fun _ s₃ => wpAny M A (execs rest env) Q E s₃) E s₂) E s₁) E s) :
    wpAny M A (execs (.Delete [.Subscript o i spos] pos :: rest) env) Q E s := by
  refine wpAny_execs_cons (wpAny_Delete (wpAny_deleteEach_cons ?_))
  rw [arm_delete_Subscript]
  refine wpAny_bind (wpAny_mono hq (fun ov s₁ q => wpAny_bind (wpAny_holding (wpAny_mono q (fun iv s₂ q => wpAny_bind (wpAny_standAt (wpAny_bind (wpAny_holding (wpAny_mono q (fun _ s₃ q => ?_) fun _ _ x => x))))) fun _ _ x => x))) fun _ _ x => x)
  exact wpAny_release' (wpAny_deleteEach_nil q)
theorem e_tup {M : Model} {elts : List Expr} {k : Nat} (hq : wpAny M A (spliced (backTo pos (starEach elts env))) (fun vs s₁ => wpAny M A (newTuple vs) Q E s₁) E s) : wpAny M A (eval (.Tuple elts k pos) env) Q E s := Tuple_ hq
theorem newTuple_ {M : Model} {vs : List Value} (S : St g L m news h) (hsz : vs.length ≤ sizeLine)
    (hq : ∀ l h', (∀ p ∈ news, p.1 < l) → St g L m ((l, tupO vs) :: news) h' → Q (.ref l) (sh s h' t)) : wpAny M A (newTuple vs) Q E (sh s h t) :=
  newTuple_N (s := sh s h t) S.F S.N (fun h' F' N' => hq _ h' S.lt ⟨F', N'⟩) hsz
theorem o_is_none {M : Model} {v : Value} (hv : v ≠ .none) (hp : plainIs v .none = true) (hq : Q (.bool false) s) : wpAny M A (compareOp .Is v .none) Q E s := wpAny_is_other hp hv hq
theorem o_isnone {M : Model} (hq : Q (.bool true) s) : wpAny M A (compareOp .Is .none .none) Q E s := wpAny_is_self rfl hq
theorem o_isnot_str {M : Model} {x : Str} {u : Tok} (hq : Q (.bool true) s) : wpAny M A (compareOp .IsNot (.str x u) .none) Q E s := wpAny_isNot_other rfl (by intro h; cases h) hq
theorem o_is_str {M : Model} {x : Str} {u : Tok} (hq : Q (.bool false) s) : wpAny M A (compareOp .Is (.str x u) .none) Q E s := wpAny_is_other rfl (by intro h; cases h) hq
end
end
local macro_rules | `(tactic| walk_at "W8") => `(tactic| first
  | (with_reducible refine' x_del ?_)
  | ((with_reducible refine' del_inst ?C ?S ?hx ?hdx ?hq ?hs ?hf ?_); (case C | S => assumption); (case hx | hdx => walk_at "MEM"); (case hq | hs | hf => k_is))
  | ((with_reducible refine' set_inst ?C ?S ?hx ?hdx ?hq ?hs ?hf ?_); (case C | S => assumption); (case hx | hdx => walk_at "MEM"); (case hq | hs | hf => k_is))
  | (with_reducible refine' e_tup ?_)
  | ((with_reducible refine' newTuple_ ?S ?hz ?_); (case S => assumption); (case hz => walk_at "SZ"); intro _ _ _ _)
  | (with_reducible refine' o_isnone ?_)
  | (with_reducible refine' o_isnot_str ?_)
  | (with_reducible refine' o_is_str ?_)
  | fail)
noncomputable section
def Mut (news : List (Addr × Obj)) (lst : Addr) (kvs : List (List Nat × List Nat)) (news' : List (Addr × Obj)) : Prop :=
  ∃ arr n tl, news' = (lst, W.listOf arr n) :: (tl ++ news) ∧ (∀ p ∈ tl, p.1 ≠ lst) ∧ Tab (tl ++ news) arr kvs
theorem Mut.nil {news : List (Addr × Obj)} {lst : Addr} {kvs : List (List Nat × List Nat)} {arr : Array Value} {n : Nat} (h : Tab news arr kvs) : Mut news lst kvs ((lst, W.listOf arr n) :: news) := ⟨arr, n, [], rfl, (fun _ h => by cases h), h⟩
theorem Paired.snoc' {α β : Type} {F : α → β → Prop} {a : α} {b : β} {l₁ : List α} {l₂ : List β} (x : Paired F l₁ l₂) (h : F a b) : Paired F (l₁ ++ [a]) (l₂ ++ [b]) := Paired.snoc x h
theorem Tab.push {news : List (Addr × Obj)} {arr : Array Value} {kvs : List (List Nat × List Nat)} {v : Value} {kv : List Nat × List Nat} (h : Tab news arr kvs) (r : RowAt news v kv) : Tab news (arr.push v) (kvs ++ [kv]) := by
  unfold Tab
  rw [Array.toList_push]
  exact Paired.snoc h r
def dropK (k : List Nat) (kvs : List (List Nat × List Nat)) : List (List Nat × List Nat) := kvs.filter fun kv => kv.1.map low != k.map low
theorem set_fn : ∀ (w : World) (x dx lst : Addr) (hv : Int) (tk : Tok) (nn : Nat) (k : List Nat) (hk : ∀ c ∈ k, 33 ≤ c ∧ c < 128) (hkz : k.length ≤ 1000) (u : Tok) (v : List Nat) (hv33 : ∀ c ∈ v, 33 ≤ c ∧ c < 128) (hvz : v.length ≤ 1000) (uv : Tok)
    (arr : Array Value) (n : Nat) (kvs : List (List Nat × List Nat)) (news : List (Addr × Obj))
    (hx : (x, instObj 182 dx) ∈ news) (hdx : (dx, hdD hv tk lst nn) ∈ news) (hlst : ∀ p ∈ news, p.1 ≠ lst) (ht : Tab news arr kvs) (hz : kvs.length ≤ 1000) (hkv : ∀ kv ∈ kvs, kv.1.length ≤ 1000 ∧ ∀ c ∈ kv.1, c < 128),
    FnR w 3 97 [.ref x, .str (so k) u, .str (so v) uv] [] "ValueError" ((lst, W.listOf arr n) :: news) (fun r news' => r = .none ∧ 127 ∉ k ∧ 127 ∉ v ∧ Mut news lst (dropK k kvs ++ [(k, v)]) news')
      (fun news' => (127 ∈ k ∧ Mut news lst kvs news') ∨ (127 ∉ k ∧ 127 ∈ v ∧ Mut news lst (dropK k kvs) news')) := by
  intro w x dx lst hv tk nn k hk hkz u v hv33 hvz uv arr n kvs news hx hdx hlst ht hz hkv
  intro p loose mean mg mb dp un gd cn cs L a ccd cl outer A₀ base g m s h t Q E C S hd hu hret hraise
  refine' call_fn2 [(Str.ofString "self", Value.ref x), (Str.ofString "name", Value.str (so k) u), (Str.ofString "val", Value.str (so v) uv)] C S ?k6 ?k7 ?k8 ?k9 ?kB ?c2 ?c3 ?c4 ?c5 ?_
  case k6 => k_is
  case k7 => k_is
  case k8 => omega
  case k9 => exact BindsTo.of_eq rfl
  case kB => exact locs rfl
  case c2 => exact rfl
  case c3 => exact rfl
  case c4 => exact rfl
  case c5 => decide
  intro g' L' h' t' FG S' C' hlt G
  walk_at "V"
  refine del_fn w x dx lst hv tk nn k hk hkz u arr n kvs news hx hdx hlst ht hz hkv C' S' (by walk_at "RM") (by walk_at "RM") ?_ ?_
  rotate_left
  · rintro e g₁ news' h₁ t₂ F₁ R hsm ⟨rfl, h127⟩
    refine xl_on C'.B F₁ R hsm fun h₂ R' hsm' => ?_
    exact hraise _ _ _ _ _ FG R' hsm' (.inl ⟨h127, .nil ht⟩)
  rintro _ _ h₁ t₁ S₁ ⟨rfl, h127, arr₁, n₁, rfl, ht₁⟩
  change Tab news arr₁ (dropK k kvs) at ht₁
  have hsz₁ : arr₁.size ≤ 1000 := by
    rw [ht₁.size]
    exact Nat.le_trans (List.length_filter_le _ _) hz
  walk_at "V"
  refine conv_fn w x k hk (by omega) true u _ C' S₁ (by walk_at "RM") (by walk_at "RM") ?_ ?_
  rotate_left
  · rintro e g₁ news' h₁ t₂ F₁ R hsm ⟨rfl, h127'⟩
    exact absurd h127' h127
  rintro _ _ h₂ t₂ S₂ ⟨rfl, rfl, _⟩
  walk_at "V"
  refine conv_fn w x v hv33 (by omega) false uv _ C' S₂ (by walk_at "RM") (by walk_at "RM") ?_ ?_
  rotate_left
  · rintro e g₁ news' h₁ t₂ F₁ R hsm ⟨rfl, h127'⟩
    refine xl_on C'.B F₁ R hsm fun h₂ R' hsm' => ?_
    exact hraise _ _ _ _ _ FG R' hsm' (.inr ⟨h127, h127', .nil ht₁⟩)
  rintro _ _ h₃ t₃ S₃ ⟨rfl, rfl, h127v⟩
  walk_at "V"
  rename_i T h₄ hT S₄
  refine c_append (vs := arr₁) (n := n₁) (news := (T, tupO [.str (so k) u, .str (so v) uv]) :: news) (S₄.sub ?hs) ?hl ?hz2 fun h₅ n₅ S₅ => ?_
  case hs =>
    rintro p (_ | ⟨_, _ | ⟨_, hp⟩⟩)
    · exact .tail _ (.head _)
    · exact .head _
    · exact .tail _ (.tail _ hp)
  case hl =>
    rintro p (_ | ⟨_, hp⟩)
    · exact Ne.symm (Nat.ne_of_lt (hT _ (.head _)))
    · exact hlst p hp
  case hz2 => rw [sizeLine_eq]; omega
  walk_at "V"
  refine leave_n S₅ fun S₆ => hret _ _ _ _ S₆ ⟨rfl, h127, h127v, _, n₅, [(T, tupO [.str (so k) u, .str (so v) uv])], rfl, ?_, ?_⟩
  · intro p hp
    rw [List.mem_singleton.mp hp]
    exact Ne.symm (Nat.ne_of_lt (hT _ (.head _)))
  · exact (ht₁.mono fun p hp => .tail _ hp).push ⟨T, u, uv, rfl, .head _⟩
end
noncomputable section
def sameK (k : List Nat) (kvs : List (List Nat × List Nat)) : Option (List Nat × List Nat) := kvs.find? fun kv => kv.1.map low == k.map low
theorem default_fn : ∀ (w : World) (x dx lst : Addr) (hv : Int) (tk : Tok) (nn : Nat) (k : List Nat) (hk : ∀ c ∈ k, 33 ≤ c ∧ c < 128) (hkz : k.length ≤ 1000) (u : Tok) (v : List Nat) (hv33 : ∀ c ∈ v, 33 ≤ c ∧ c < 128) (hvz : v.length ≤ 1000) (uv : Tok)
    (arr : Array Value) (n : Nat) (kvs : List (List Nat × List Nat)) (news : List (Addr × Obj))
    (hx : (x, instObj 182 dx) ∈ news) (hdx : (dx, hdD hv tk lst nn) ∈ news) (hlst : ∀ p ∈ news, p.1 ≠ lst) (ht : Tab news arr kvs) (hz : kvs.length ≤ 1000) (hkv : ∀ kv ∈ kvs, kv.1.length ≤ 1000 ∧ ∀ c ∈ kv.1, c < 128),
    FnR w 3 172 [.ref x, .str (so k) u, .str (so v) uv] [] "ValueError" ((lst, W.listOf arr n) :: news)
      (fun r news' => 127 ∉ k ∧ match sameK k kvs with | some kv => (∃ u, r = .str (so kv.2) u) ∧ Mut news lst kvs news' | none => (∃ u, r = .str (so v) u) ∧ 127 ∉ v ∧ Mut news lst (kvs ++ [(k, v)]) news')
      (fun news' => (127 ∈ k ∨ (sameK k kvs = none ∧ 127 ∈ v)) ∧ Mut news lst kvs news') := by
  intro w x dx lst hv tk nn k hk hkz u v hv33 hvz uv arr n kvs news hx hdx hlst ht hz hkv
  intro p loose mean mg mb dp un gd cn cs L a ccd cl outer A₀ base g m s h t Q E C S hd hu hret hraise
  refine' call_fn2 [(Str.ofString "self", Value.ref x), (Str.ofString "name", Value.str (so k) u), (Str.ofString "value", Value.str (so v) uv)] C S ?k6 ?k7 ?k8 ?k9 ?kB ?c2 ?c3 ?c4 ?c5 ?_
  case k6 => k_is
  case k7 => k_is
  case k8 => omega
  case k9 => exact BindsTo.of_eq rfl
  case kB => exact locs rfl
  case c2 => exact rfl
  case c3 => exact rfl
  case c4 => exact rfl
  case c5 => decide
  intro g' L' h' t' FG S' C' hlt G
  walk_at "V"
  have hsz : arr.size ≤ 1000 := by rw [ht.size]; exact hz
  refine get_fn w x dx lst hv tk nn k hk hkz u arr n kvs _ (.tail _ hx) (.tail _ hdx) (.head _) (ht.mono fun p hp => .tail _ hp) hz hkv C' S' (by walk_at "RM") (by walk_at "RM") ?_ ?_
  rotate_left
  · rintro e g₁ news' h₁ t₂ F₁ R hsm ⟨rfl, h127⟩
    refine xl_on C'.B F₁ R hsm fun h₂ R' hsm' => ?_
    exact hraise _ _ _ _ _ FG R' hsm' ⟨.inl h127, .nil ht⟩
  rintro r _ h₁ t₁ S₁ ⟨h127, rfl, hr⟩
  change (match sameK k kvs with | some kv => ∃ u, r = .str (so kv.2) u | none => r = .none) at hr
  cases hf : sameK k kvs with
  | some kv =>
    rw [hf] at hr hret
    obtain ⟨ur, rfl⟩ := hr
    walk_at "V"
    refine ⟨fun hb => absurd hb Bool.false_ne_true, fun _ => ?_⟩
    walk_at "V"
    have S₂ := ‹St g' L' (upd (lk _) _ _) _ _›
    exact leave_r S₂ fun S₃ => hret _ _ _ _ S₃ ⟨h127, ⟨ur, rfl⟩, .nil ht⟩
  | none =>
    rw [hf] at hr hret
    rw [hf] at hraise
    dsimp only at hr
    subst hr
    walk_at "V"
    refine ⟨fun _ => ?_, fun hb => absurd hb.symm Bool.false_ne_true⟩
    walk_at "V"
    have S₂ := ‹St g' L' (upd (lk _) _ _) _ _›
    refine conv_fn w x k hk (by omega) true u _ C' S₂ (by walk_at "RM") (by walk_at "RM") ?_ ?_
    rotate_left
    · rintro e g₁ news' h₁ t₂ F₁ R hsm ⟨rfl, h127'⟩
      exact absurd h127' h127
    rintro _ _ h₂ t₂ S₃ ⟨rfl, rfl, _⟩
    walk_at "V"
    refine conv_fn w x v hv33 (by omega) false uv _ C' S₃ (by walk_at "RM") (by walk_at "RM") ?_ ?_
    rotate_left
    · rintro e g₁ news' h₁ t₂ F₁ R hsm ⟨rfl, h127'⟩
      refine xl_on C'.B F₁ R hsm fun h₂ R' hsm' => ?_
      exact hraise _ _ _ _ _ FG R' hsm' ⟨.inr ⟨rfl, h127'⟩, .nil ht⟩
    rintro _ _ h₃ t₃ S₄ ⟨rfl, rfl, h127v⟩
    walk_at "V"
    rename_i T h₄ hT S₅
    refine c_append (vs := arr) (n := n) (news := (T, tupO [.str (so k) u, .str (so v) uv]) :: news) (S₅.sub ?hs) ?hl ?hz2 fun h₅ n₅ S₆ => ?_
    case hs =>
      rintro p (_ | ⟨_, _ | ⟨_, hp⟩⟩)
      · exact .tail _ (.head _)
      · exact .head _
      · exact .tail _ (.tail _ hp)
    case hl =>
      rintro p (_ | ⟨_, hp⟩)
      · exact Ne.symm (Nat.ne_of_lt (hT _ (.head _)))
      · exact hlst p hp
    case hz2 => rw [sizeLine_eq]; omega
    walk_at "V"
    refine leave_r S₆ fun S₇ => hret _ _ _ _ S₇ ⟨h127, ⟨uv, rfl⟩, h127v, _, n₅, [(T, tupO [.str (so k) u, .str (so v) uv])], rfl, ?_, ?_⟩
    · intro p hp
      rw [List.mem_singleton.mp hp]
      exact Ne.symm (Nat.ne_of_lt (hT _ (.head _)))
    · exact (ht.mono fun p hp => .tail _ hp).push ⟨T, u, uv, rfl, .head _⟩
end
noncomputable section
def subC (c : Nat) (z : List Nat) (l : List Nat) : List Nat := l.flatMap fun x => if x = c then z else [x]
theorem subC_append (c : Nat) (z a b : List Nat) : subC c z (a ++ b) = subC c z a ++ subC c z b := by simp [subC]
theorem subC_free (c : Nat) (z : List Nat) : ∀ l : List Nat, c ∉ l → subC c z l = l
  | [], _ => rfl
  | k :: r, h => by
    have h1 : ¬ k = c := fun e => h (e ▸ List.mem_cons_self ..)
    have h2 : c ∉ r := fun m => h (List.mem_cons_of_mem _ m)
    have ih := subC_free c z r h2
    unfold subC at ih ⊢
    rw [List.flatMap_cons, if_neg h1, ih]; rfl
theorem subC_one (c : Nat) (z : List Nat) : subC c z [c] = z := by simp [subC]
theorem subC_join (c : Nat) (z : List Nat) : ∀ parts : List Str, (∀ p ∈ parts, c ∉ p.cps.toList) → subC c z (Str.join ⟨#[c]⟩ parts).cps.toList = (Str.join (so z) parts).cps.toList
  | [], _ => rfl
  | [p], h => subC_free c z _ (h p (List.mem_singleton.mpr rfl))
  | p :: q :: r, h => by
    have ih := subC_join c z (q :: r) fun a ha => h a (List.mem_cons_of_mem _ ha)
    show subC c z (p ++ ⟨#[c]⟩ ++ Str.join ⟨#[c]⟩ (q :: r)).cps.toList = (p ++ so z ++ Str.join (so z) (q :: r)).cps.toList
    simp only [Str.cps_append, Array.toList_append]
    rw [subC_append, subC_append, ih, subC_free c z _ (h p (List.mem_cons_self ..))]
    show p.cps.toList ++ subC c z [c] ++ _ = _
    rw [subC_one]
theorem replace_so (l z : List Nat) (c : Nat) : Txt.replace (so l) (so [c]) (so z) = so (subC c z l) := by
  have h : (Txt.replace (so l) ⟨#[c]⟩ (so z)).cps.toList = subC c z (so l).cps.toList := by
    rw [StrLaws.replace_one, ← subC_join c z _ (StrLaws.split_free (so l) c), StrLaws.join_split]
  have h' : (Txt.replace (so l) ⟨#[c]⟩ (so z)).cps.toList = subC c z l := by simpa using h
  show Txt.replace (so l) ⟨#[c]⟩ (so z) = _
  generalize Txt.replace (so l) ⟨#[c]⟩ (so z) = x at h'
  obtain ⟨⟨y⟩⟩ := x
  simp at h'
  rw [h']
theorem subC_len (c : Nat) (z : List Nat) (hz : z.length ≤ 2) (hz0 : 0 < z.length) : ∀ l : List Nat, (subC c z l).length ≤ 2 * l.length
  | [] => by simp [subC]
  | k :: r => by
    have ih := subC_len c z hz hz0 r
    unfold subC at ih ⊢
    rw [List.flatMap_cons, List.length_append, List.length_cons]
    by_cases hk : k = c
    · rw [if_pos hk]; omega
    · rw [if_neg hk, List.length_singleton]; omega
section
open Builtin Builtin.Str
variable {prog : Program} {w : World} {A : Around} {E : Value → Shared → Prop} {s : Shared} {h : Heap} {t : Nat} {g : Heap} {L : Addr} {m : Str → Option Value} {news : List (Addr × Obj)} {env : Env} {pos : Pos}
  {cn : Str} {cs : Scope} {a : Addr} {ccd : Value} {cl : List (Str × Addr)} {Q : Value → Shared → Prop}
theorem x_storeM {M : Model} {x : Str} {v : Value} {Q : Unit → Shared → Prop} (S : St g L m news h) (hk : cs.kind = .function) (hx : (envX cn cs L a ccd cl).kindOf x = some .local)
    (hq : ∀ h' t', 0 < t' → St g L (upd m x v) news h' → Q () (sh s h' t')) : wpAny M A (storeName (envX cn cs L a ccd cl) x v) Q E (sh s h t) :=
  storeX_L (s := sh s h t) S.F S.N (fun h' F' N' => hq h' _ (Nat.succ_pos _) ⟨F', N'⟩) hk hx
theorem e_intM {M : Model} {i : Int} {k : Nat} (hq : ∀ u t', 0 < t' → Q (.int i u) (sh s h t')) : wpAny M A (eval (.Constant (.int i) k pos) env) Q E (sh s h t) := wpAny_Constant_int (s := sh s h t) (hq _ _ (Nat.succ_pos _))
theorem e_strX {M : Model} {x : Str} {k : Nat} (hq : Q (.str x t) (sh s h (t + 1))) : wpAny M A (eval (.Constant (.str x) k pos) env) Q E (sh s h t) := Constant_str (s := sh s h t) hq
theorem c_replaceM {l z : List Nat} {c : Nat} {x y : Str} {tt u v : Tok} (hx : x = so [c]) (hy : y = so z) (hu : u ≠ 0) (hv : v ≠ 0) (huv : u ≠ v) (hne : (so [c] == so z) = false) (hb : l.length ≤ 1000) (hz : z.length ≤ 10) (ht : 0 < t)
    (hq : ∀ t' k, 0 < k → Q (.str (so (subC c z l)) t') (sh s h k)) : wpAny (model prog w) A (call (.builtin "str.replace") [.str (so l) tt, .str x u, .str y v]) Q E (sh s h t) := by
  subst hx hy
  have hlen : (so l).length = l.length := by show l.toArray.size = _; simp
  have hlz : (so z).length = z.length := by show z.toArray.size = _; simp
  have hbb : (so l).length + ((so l).length + 1) * (so z).length ≤ 16777216 := by
    rw [hlen, hlz]
    have : (l.length + 1) * z.length ≤ 1001 * 10 := Nat.mul_le_mul (by omega) hz
    omega
  have hl : tooLong ((so l).length + (occurrences (so l) (so [c]) 0 (so l).length ((so l).length + 1)).length * (so z).length) = false := by
    have h1 := StrLaws.occ_length_le (so l) (so [c]) 0 (so l).length ((so l).length + 1)
    have h2 : (occurrences (so l) (so [c]) 0 (so l).length ((so l).length + 1)).length * (so z).length ≤ ((so l).length + 1) * (so z).length := Nat.mul_le_mul_right _ h1
    have e : (2 : Nat) ^ 24 = 16777216 := by decide
    unfold tooLong sizeLine
    exact decide_eq_false (by omega)
  refine call_gives (s := sh s h t) F.slot_str_replace (typeIs_str _ _ _) F.entry_str_replace (F.args_str_replace_3 _ _ _)
    (gives_str_replace (so l) (so [c]) (so z) tt u v fun _ => ⟨by simp [hu, hv], by simp [huv], hne, hl⟩) ?_
  have hq' : ∀ t' k, 0 < k → Q (.str (Txt.replace (so l) (so [c]) (so z)) t') (sh s h k) := by rw [replace_so]; exact hq
  unfold Txt.replace at hq'
  cases hc : ((occurrences (so l) (so [c]) 0 (so l).length ((so l).length + 1)).isEmpty || ((so [c]).length == 0 && (so z).length == 0))
  · rw [hc] at hq'
    simp only [Bool.false_eq_true, if_false] at hq' ⊢
    exact ⟨fits_replaced (so [c]) hbb, hq' _ _ (Nat.succ_pos _)⟩
  · rw [hc] at hq'
    simp only [if_true] at hq' ⊢
    exact hq' tt t ht
end
end
local macro_rules | `(tactic| walk_at "X") => `(tactic| repeat' ((first | (with_reducible refine' e_strX ?_) | walk_at "W1" | walk_at "W8") <;> (try (show PySem.wpAny _ _ _ _ _ _))))
noncomputable section
theorem fmt_head {a b : Str} {tt : Addr} {t u v : Tok} (ha : a.length ≤ 1000) (hb : b.length ≤ 10000) :
    Meets (Builtin.«str.__mod__» ⟨[.str ⟨#[37, 115, 58, 32, 37, 115]⟩ t, .ref tt], []⟩) (fun _ R s => IsTup s.heap tt #[.str a u, .str b v] ∧ ∀ t' k, R (.ok (.ret (.str (a ++ Str.ofString ": " ++ b) t'))) { s with toks := k }) := by
  kpt_run
section
variable {prog : Program} {w : World} {A : Around} {E : Value → Shared → Prop} {s : Shared} {h : Heap} {t : Nat} {g : Heap} {L : Addr} {m : Str → Option Value} {news : List (Addr × Obj)} {env : Env} {pos : Pos} {Q : Value → Shared → Prop}
theorem so_len (l : List Nat) : (so l).length = l.length := by show l.toArray.size = _; simp
theorem o_fmtH {tt : Addr} {u v t₀ : Tok} {a b : List Nat} (S : St g L m news h) (ht : (tt, tupO [.str (so a) u, .str (so b) v]) ∈ news) (ha : a.length ≤ 1000) (hb : b.length ≤ 10000)
    (hq : ∀ t' k, Q (.str (so (a ++ [58, 32] ++ b)) t') (sh s h k)) : wpAny (model prog w) A (binaryOp .Mod (.str (Str.ofString "%s: %s") t₀) (.ref tt)) Q E (sh s h t) := by
  refine KPt.mod_tuple (s := sh s h t) S.N ht (X' := ⟨#[37, 115, 58, 32, 37, 115]⟩) (by decide +kernel) (fmt_head (u := u) (v := v) (by rw [so_len]; exact ha) (by rw [so_len]; exact hb)) fun t' k => ?_
  rw [show Str.ofString ": " = so [58, 32] by decide +kernel, so_append, so_append]
  exact hq t' k
theorem e_joined {M : Model} {v₁ v₂ : Expr} {rest : List Expr} (hq : wpAny M A (joinParts (so []) (eval v₁ env :: eval v₂ env :: evalEach rest env)) Q E s) : wpAny M A (eval (.JoinedStr (v₁ :: v₂ :: rest) pos) env) Q E s := JoinedStr_many hq
theorem j_cons {M : Model} {e : Expr} {rest : List (Sem Value)} {out : List Nat} (y : List Nat) (hz : out.length + y.length ≤ 100000)
    (hq : wpAny M A (eval e env) (fun v s₁ => (∃ u, v = .str (so y) u) ∧ wpAny M A (joinParts (so (out ++ y)) rest) Q E s₁) E s) : wpAny M A (joinParts (so out) (eval e env :: rest)) Q E s := by
  refine joinParts_cons (wpAny_mono hq (fun v s₁ q => ?_) fun _ _ x => x)
  obtain ⟨⟨u, rfl⟩, q⟩ := q
  dsimp only
  rw [so_append]
  refine ⟨?_, q⟩
  rw [so_len, List.length_append, sizeLine_eq]; omega
theorem j_nil {M : Model} {out : List Nat} (hz : out.length ≤ 100000) (hq : ∀ u t', Q (.str (so out) u) (sh s h t')) : wpAny M A (joinParts (so out) []) Q E (sh s h t) :=
  joinParts_nil (s := sh s h t) (hq _ _) (by rw [so_len, sizeLine_eq]; omega)
theorem e_fvs {value : Expr} {y : List Nat} (hz : y.length ≤ 100000) (hq : wpAny (model prog w) A (eval value env) (fun v s₁ => ∃ u h₁ t₁, v = .str (so y) u ∧ s₁ = sh s h₁ t₁ ∧ ∀ u' t', Q (.str (so y) u') (sh s h₁ t')) E (sh s h t)) :
    wpAny (model prog w) A (eval (.FormattedValue value 115 none pos) env) Q E (sh s h t) := by
  refine wpAny_FormattedValue_s (wpAny_mono hq (fun v s₁ q => ?_) fun _ _ x => x)
  obtain ⟨u, h₁, t₁, rfl, rfl, q⟩ := q
  have hz' : (so y).length ≤ sizeLine := by rw [so_len, sizeLine_eq]; omega
  exact habitSame_str (s := sh s h₁ t₁) (fun t' tk => formatField_str (s := sh s h₁ tk) (fun t'' tk' => q t'' tk') hz') hz'
theorem c_lenS {l : List Nat} {u : Tok} (hz : l.length ≤ 100000) (hq : ∀ u t', Q (.int (l.length : Nat) u) (sh s h t')) : wpAny (model prog w) A (call (.builtin "len") [.str (so l) u]) Q E (sh s h t) := by
  refine len_str (s := sh s h t) (by rw [so_len]; omega) ?_
  rw [so_len]
  exact hq _ _
end
end
noncomputable section
def fmtL (p v : List Nat) : List Nat := if v = [] then p else p ++ [61, 34] ++ subC 34 [92, 34] (subC 92 [92, 92] v) ++ [34]
theorem fmt_fn : ∀ (w : World) (p v : List Nat) (hp : p.length ≤ 100) (hv : v.length ≤ 100) (u u' : Tok) (news : List (Addr × Obj)),
    Fn w 1 61 [.str (so p) u, .str (so v) u'] [] news (fun r tl => tl = [] ∧ ∃ u, r = .str (so (fmtL p v)) u) := by
  intro w pp v hp hv u u' news
  intro p loose mean mg mb dp un gd cn cs L a ccd cl outer A₀ base g m s h t Q E C S hd hu hret
  refine' call_fn [(Str.ofString "param", Value.str (so pp) u), (Str.ofString "value", Value.str (so v) u'), (Str.ofString "quote", Value.int 1 389)] C S ?k6 ?k7 ?k8 ?k9 ?kB ?c2 ?c3 ?c4 ?c5 ?_
  case k6 => k_is
  case k7 => k_is
  case k8 => omega
  case k9 => exact binds_K (C.in S) rfl (by k_is) rfl rfl rfl
  case kB => exact locs rfl
  case c2 => exact rfl
  case c3 => exact rfl
  case c4 => exact rfl
  case c5 => decide
  intro g' L' h' t' S' C' hlt G
  walk_at "V"
  refine ⟨fun _ => ?_, fun hb => absurd hb.symm Bool.false_ne_true⟩
  walk_at "V"
  refine c_lenS (by omega) fun u₁ t₁ => ?_
  refine e_intM fun u₂ t₂ ht₂ => ?_
  walk_at "V"
  refine ⟨fun hb => ?_, fun hb => ?_⟩
  · have hv0 : v ≠ [] := by
      rintro rfl
      have := of_decide_eq_true hb
      simp at this
    walk_at "V"
    refine ⟨fun _ => ?_, fun hb => absurd hb.symm Bool.false_ne_true⟩
    walk_at "V"
    refine ⟨fun _ => ?_, fun hb => absurd hb (by decide)⟩
    refine ⟨fun _ => ?_, fun hb => absurd hb.symm Bool.false_ne_true⟩
    walk_at "X"
    have h92 := subC_len 92 [92, 92] (by decide) (by decide) v
    refine c_replaceM (c := 92) (z := [92, 92]) (by decide +kernel) (by decide +kernel) ?hu1 ?hv1 ?huv1 (by decide +kernel) (by omega) (by decide) ?ht1 fun t' k hk => ?_
    case hu1 => exact Nat.ne_of_gt ht₂
    case hv1 => exact Nat.succ_ne_zero _
    case huv1 => exact Nat.ne_of_lt (Nat.lt_succ_self _)
    case ht1 => exact Nat.succ_pos _
    walk_at "X"
    have h34 := subC_len 34 [92, 34] (by decide) (by decide) (subC 92 [92, 92] v)
    refine c_replaceM (c := 34) (z := [92, 34]) (by decide +kernel) (by decide +kernel) ?hu2 ?hv2 ?huv2 (by decide +kernel) (by omega) (by decide) ?ht2 fun t'' k' hk' => ?_
    case hu2 => exact Nat.ne_of_gt hk
    case hv2 => exact Nat.succ_ne_zero _
    case huv2 => exact Nat.ne_of_lt (Nat.lt_succ_self _)
    case ht2 => exact Nat.succ_pos _
    walk_at "V"
    rename_i S₃
    refine e_joined (j_cons pp (by simp; omega) ?_)
    refine e_fvs (y := pp) (by omega) ?_
    walk_at "V"
    refine ⟨_, _, _, rfl, rfl, fun u₄ t₄ => ⟨⟨_, rfl⟩, ?_⟩⟩
    refine j_cons [61, 34] (by simp; omega) ?_
    walk_at "V"
    refine ⟨⟨_, congrArg (Value.str · _) (by decide +kernel)⟩, ?_⟩
    refine j_cons (subC 34 [92, 34] (subC 92 [92, 92] v)) (by simp; omega) ?_
    refine e_fvs (y := subC 34 [92, 34] (subC 92 [92, 92] v)) (by omega) ?_
    walk_at "V"
    refine ⟨_, _, _, rfl, rfl, fun u₄ t₄ => ⟨⟨_, rfl⟩, ?_⟩⟩
    refine j_cons [34] (by simp; omega) ?_
    walk_at "V"
    refine ⟨⟨_, congrArg (Value.str · _) (by decide +kernel)⟩, ?_⟩
    refine j_nil (by simp; omega) fun u₅ t₅ => ?_
    refine leave_r S₃ fun S₄ => hret _ [] _ _ S₄ (keep_of S G S₃ fun p hp => hp) (fun _ _ _ hp => by cases hp) ⟨rfl, u₅, ?_⟩
    rw [fmtL, if_neg hv0]
    rfl
  · have hv0 : v = [] := by
      have := of_decide_eq_false hb
      cases v with
      | nil => rfl
      | cons a r => simp at this
    refine ⟨fun hb => absurd hb Bool.false_ne_true, fun _ => ?_⟩
    walk_at "V"
    refine leave_r S' fun S₄ => hret _ [] _ _ S₄ (keep_of S G S' fun p hp => hp) (fun _ _ _ hp => by cases hp) ⟨rfl, u, ?_⟩
    rw [fmtL, if_pos hv0]
end
noncomputable section
section
variable {w : World} {E : Value → Shared → Prop} {s : Shared} {h : Heap} {t : Nat} {g : Heap} {L : Addr} {m : Str → Option Value} {news : List (Addr × Obj)}
  {cn : Str} {cs : Scope} {a : Addr} {ccd : Value} {cl : List (Str × Addr)}
variable {dp un : Nat} {gd : Option (List Code)} {outer : List Env} {A₀ : Around} {base : Heap} {p : Program} {loose : List Str} {mean : ExcName → Option Value} {mg mb : Str → Option Value}
  {name qual : Str} {params : Arguments} {body : List Stmt} {scope : Scope} {dV kV doc pm cdv ct oc : Value} {an od : Option Addr} {osl : Array (Option Value)} {f : Addr} {pos : List Value} {kw : List (Str × Value)} {Q : Value → Shared → Prop}
theorem call_fnW (ex front : List (Str × Value)) (nm : Str) (DD : List (PyData × PyData)) {g₁ : Addr → Sem (List (Str × Value))} (C : Cx w p loose mean mg mb cs outer A₀ base g) (S : St g L m news h)
    (ho : (hd.heap_39 w.params).lookup f = some ⟨oc, od, .func (fnX name qual params body scope [] dV kV doc pm an cdv ct), osl⟩) (hcd : codeIn (hd.heap_39 w.params) cdv qual = true) (hroom : dp < recursionLimit)
    (hx : kw.filter (fun x => !ownKw params x.1) = ex) (hnm : params.kwarg.map (·.arg) = some nm) (hn : kwDistinct ex = true) (hD : PyProof.V.FlatPairs PyData.str ex DD)
    (hfr : peek (hd.heap_39 w.params) ⟨(PySem.Challenge.rw_pm0042_01.row.prog), w.params⟩ (bindArgs (fnCut (fnX name qual params body scope [] dV kV doc pm an cdv ct)) (argsCut params ⟨pos, kw⟩)) = some front)
    (hp : peekA (hd.heap_39 w.params) ⟨(PySem.Challenge.rw_pm0042_01.row.prog), w.params⟩ (bindArgs (fnX name qual params body scope [] dV kV doc pm an cdv ct) ⟨pos, kw⟩) = some (dictOf [] 0, g₁))
    (hk₁ : ∀ D, g₁ D = (forIn ex PUnit.unit (fun x _ => (nsSet D x.1 x.2 >>= fun _ => pure (ForInStep.yield PUnit.unit))) >>= fun _ => pure (front ++ [(nm, Value.ref D)])))
    (hloc : ∀ D, ∀ y ∈ front ++ [(nm, Value.ref D)], scope.names.lookup y.1 = some .local)
    (hco : scope.isCoroutine = false) (hgen : scope.isGenerator = false) (hkf : scope.kind = .function) (hcell : ∀ x ∈ scope.names, x.2 ≠ .cell)
    (hq : ∀ D o g' L' h' t', (∀ p ∈ news, p.1 < D) → (D == sysModules) = false → o.IsDictOf (strKind (PySem.Challenge.rw_pm0042_01.row.prog) w) ex → Fr g L g' m → St g' L' (lk (front ++ [(nm, Value.ref D)])) ((D, o) :: news) h' → Cx w p loose mean mg mb scope (envX cn cs L a ccd cl :: outer) (ktrTop dp un gd cn cs L a ccd cl outer) base g' →
      wpAny (model (PySem.Challenge.rw_pm0042_01.row.prog) w) (ktrTop (dp + 1) (un + 3) gd qual scope L' f cdv [] (envX cn cs L a ccd cl :: outer)) (execs body (envX qual scope L' f cdv []))
        (Lv g L m g' Q) (fun e s' => wpAny (model (PySem.Challenge.rw_pm0042_01.row.prog) w) (ktrTop (dp + 1) (un + 3) gd qual scope L' f cdv [] (envX cn cs L a ccd cl :: outer)) (leaving (envX qual scope L' f cdv []) e) (fun _ s'' => E e s'') (fun e' s'' => E e' s'') s') (sh s h' t')) :
    wpAny (model (PySem.Challenge.rw_pm0042_01.row.prog) w) (ktrTop dp un gd cn cs L a ccd cl outer) (call (.ref f) pos kw) Q E (sh s h t) := by
  refine wpAny_call (kpc_more (s := sh s h t) (A := ktrTop dp un gd cn cs L a ccd cl outer) (R := fun r s' => match r with | .ok (.ret v) => Q v s' | .ok _ => False | .error e => E e s') C.B S.F C.X S.N C.T rfl rfl C.hk ho hcd hroom hx hnm hn hD hfr hp hk₁ hloc
    (fun D o g' L' h₁ tk l ls hs _ FG F' N' B' X' T' => ?_) hco hgen hkf hcell)
  refine wpAny_mono (hq D o g' L' h₁ tk l ls hs FG ⟨F', N'⟩ ⟨B', X', T', hkf⟩) (fun fl s' q => ?_) fun _ _ x => x
  obtain ⟨L₂, m₂, news₂, S₂, k⟩ := q
  exact ⟨L₂, m₂, news₂, S₂.F, S₂.N, fun F₃ N₃ => k ⟨F₃, N₃⟩⟩
end
section
variable {prog : Program} {w : World} {A : Around} {E : Value → Shared → Prop} {s : Shared} {h : Heap} {t : Nat} {g : Heap} {L : Addr} {m : Str → Option Value} {news : List (Addr × Obj)} {env : Env} {pos : Pos}
abbrev viewO (d : Addr) : Obj := { cls := .type "dict_items", data := .fields #[.ref d] }
theorem for_items {elts : List Expr} {x1 : Nat} {body rest : List Stmt} {vw d : Addr} {o : Obj} {ep : Nat} {kvs : List (Str × Value)} {Q : Flow → Shared → Prop} (hh : A.handled = none) (hL : env.locals = L)
    (S : St g L m news h) (hv : (vw, viewO d) ∈ news) (hat : KdkAt (strKind prog w) o kvs ep) (J : Nat → (Str → Option Value) → List (Addr × Obj) → Prop) (h0 : J 0 m news)
    (hl : ∀ i m₁ news₁, J i m₁ news₁ → (d, o) ∈ news₁)
    (turn : ∀ i k v u m₁ news₁ h₁ t₁ I oI T, kvs[i]? = some (k, v) → J i m₁ news₁ → (∀ p ∈ news₁, p.1 ≠ I) → T ≠ I → (∀ p ∈ news₁, p.1 < T) → St g L m₁ ((I, oI) :: (T, tupO [.str k u, v]) :: news₁) h₁ →
      wpAny (model prog w) A (assign (.Tuple elts x1 pos) env (.ref T)) (fun _ s₂ => wpAny (model prog w) A (execs body env) (TurnEnd s g L I (I, oI) (J (i + 1)) Q) E s₂) E (sh s h₁ t₁))
    (done : ∀ m₁ news₁ h₁ t₁, J kvs.length m₁ news₁ → St g L m₁ news₁ h₁ → wpAny (model prog w) A (execs rest env) Q E (sh s h₁ t₁))
    (hE : PassesOwn (model prog w) A env E) :
    wpAny (model prog w) A (pyIter (.ref vw)) (ForAt (model prog w) A env (.Tuple elts x1 pos) body rest Q E) E (sh s h t) := by
  subst hL
  refine wpAny_pyIter_items (s := sh s h t) (knd := strKind prog w) ⟨_, (S.N _ hv).1, rfl, rfl⟩ (hat.dictAt (S.N _ (hl 0 m news h0)).1) ?_
  have hIL : h.objs.size ≠ env.locals := Ne.symm (Nat.ne_of_lt S.Llt)
  have hIg : g.get? h.objs.size = none := S.freshAt (Nat.le_refl _)
  have hIn : ∀ p ∈ news, p.1 ≠ h.objs.size := fun p hp => Nat.ne_of_lt (S.lt p hp)
  have S₀ : St g env.locals m news (h.push { cls := .type "dict_itemiterator", data := .fields #[.none, .bool false, .ref d, .int 0 0, .int kvs.length 0, .int ep 0, .none, .none] }) := (S.push (o := { cls := .type "dict_itemiterator", data := .fields #[.none, .bool false, .ref d, .int 0 0, .int kvs.length 0, .int ep 0, .none, .none] }) rfl).sub fun p hp => .tail _ hp
  refine codeAny_forLoop_any
    (fun k s' => ∃ h' t' m' news' i ok ov, s' = sh s h' t' ∧ IsItemIter h' h.objs.size d i kvs.length ep ok ov ∧ St g env.locals m' news' h' ∧ (∀ p ∈ news', p.1 ≠ h.objs.size) ∧ J i m' news' ∧ i ≤ kvs.length ∧ k = kvs.length + 1 - i) ?_ (kvs.length + 1)
    ⟨_, t, m, news, 0, .none, .none, rfl, Heap.get?_push_size _ rfl, S₀, hIn, h0, Nat.zero_le _, rfl⟩
  rintro k s' ⟨h', t', m', news', i, ok, ov, rfl, hit, S', hn', hJ, hi, rfl⟩
  have hd' := (S'.N _ (hl i m' news' hJ)).1
  cases hx : kvs[i]? with
  | none =>
    have hsz : i = kvs.length := Nat.le_antisymm hi (by simpa using hx)
    subst hsz
    refine wpAny_pyNext_items_end (s := sh s h' t') hh hit (hat.dictAt hd') hx fun h₁ he₁ => wpAny_execs_nil ?_
    exact done m' news' h₁ t' hJ (S'.off hIL hIg hn' fun b o hb e => he₁ b o hb e)
  | some kv =>
    obtain ⟨kk, v⟩ := kv
    have hlt : i < kvs.length := (List.getElem?_eq_some_iff.mp hx).1
    refine wpAny_pyNext_items_item (s := sh s h' t') (knd := strKind prog w) hit (hat.dictAt hd') hx fun key h₁ hkey hit₁ htup hsz₁ hk₁ => ?_
    obtain ⟨u, rfl⟩ := Value.isStrOf_shape hkey
    have S₁ := S'.off (h' := h₁) hIL hIg hn' fun b o hb e => hk₁ b o hb e
    have hTg : g.get? h'.objs.size = none := S'.freshAt (Nat.le_refl _)
    have hTL : h'.objs.size ≠ env.locals := Ne.symm (Nat.ne_of_lt S'.Llt)
    have hTI : h'.objs.size ≠ h.objs.size := Ne.symm (Nat.ne_of_lt (Heap.lt_size hit))
    refine wpAny_letOwnedTupleGo_items (s := sh s h₁ t') hit₁ fun h₂ hit₂ hs₂ => ?_
    obtain ⟨oI, eI, hoI⟩ : ∃ oI, (∀ h₃ : Heap, h₃.get? h.objs.size = some oI → IsItemIter h₃ h.objs.size d (i + 1) kvs.length ep (.str kk u) v) ∧ h₂.get? h.objs.size = some oI := ⟨_, fun _ e => e, hit₂⟩
    have S₂ : St g env.locals m' ((h.objs.size, oI) :: (h'.objs.size, tupO [.str kk u, v]) :: news') h₂ := by
      have S₂' := S₁.off (h' := h₂) hIL hIg hn' fun b o hb e => (hs₂.2 b hb).trans e
      refine ⟨S₂'.F, fun p hp => ?_⟩
      rcases List.mem_cons.mp hp with rfl | hp
      · exact ⟨hoI, hIL, hIg⟩
      · rcases List.mem_cons.mp hp with rfl | hp
        · exact ⟨(hs₂.2 _ hTI).trans htup, hTL, hTg⟩
        · exact S₂'.N p hp
    refine wpAny_passesOwn hE (wpAny_mono (turn i kk v u m' news' h₂ t' h.objs.size _ h'.objs.size hx hJ hn' hTI S'.lt S₂) (fun _ s₂ h₂ => wpAny_passesOwn hE (wpAny_mono h₂ (fun f s₃ h₃ => ?_) fun _ _ e => e)) fun _ _ e => e)
    rcases h₃ with ⟨rfl, h₃', t₃, m₂, news₂, all, rfl, S₃, hia, hsa, hoa, hJ₃⟩ | ⟨v, rfl, hq⟩
    · exact ⟨kvs.length + 1 - (i + 1), by omega, h₃', t₃, m₂, news₂, i + 1, _, _, rfl, eI _ (S₃.N _ hia).1, S₃.sub hsa, hoa, hJ₃, hlt, rfl⟩
    · exact hq
theorem gm_items {M : Model} {d : Addr} {o : Obj} {pl : Sem Bool} {R : Value × List Value → Shared → Prop} (S : St g L m news h) (hd : (d, o) ∈ news) (he : o.cls = .type "dict" ∧ o.dict = none) (hq : R (.builtin "dict.items", [.ref d]) (sh s h t)) :
    wpAny M A (getMethod (.ref d) (Str.ofString "items") pl) R E (sh s h t) :=
  getMethod_builtin (v := .ref d) ⟨_, (S.N _ hd).1, he.1⟩ F.plainAttrs_dict F.slot_dict_items F.type_dict_items (fun a e => by cases e; exact ⟨_, (S.N _ hd).1, he.2⟩) hq
theorem c_items {d : Addr} {o : Obj} {kvs : List (Str × Value)} {Q : Value → Shared → Prop} (S : St g L m news h) (hd : (d, o) ∈ news) (ho : o.IsDictOf (strKind prog w) kvs) (hlo : (d == sysModules) = false)
    (hq : ∀ vw h', (∀ p ∈ news, p.1 < vw) → St g L m ((vw, viewO d) :: news) h' → Q (.ref vw) (sh s h' t)) : wpAny (model prog w) A (call (.builtin "dict.items") [.ref d]) Q E (sh s h t) := by
  obtain ⟨ep, hat⟩ := KdkAt.of ho
  have hm := hat.dictAt (S.N _ hd).1
  refine call_meetsIn (s := sh s h t) F.slot_dict_items ?_ F.entry_dict_items (F.args_dict_items_1 _) (meets_dict_items (strKind prog w) d hlo) ⟨⟨kvs, hm.dictOf⟩, hq _ _ S.lt (S.push (o := viewO d) rfl)⟩
  exact hm.dictOf.typeIs
end
end
noncomputable section
def joinL (sp : List Nat) : List (List Nat) → List Nat
  | [] => []
  | [a] => a
  | a :: b :: r => a ++ sp ++ joinL sp (b :: r)
theorem join_soL (sp : List Nat) : ∀ ls : List (List Nat), Str.join (so sp) (ls.map so) = so (joinL sp ls)
  | [] => rfl
  | [a] => by simp [Str.join, joinL]
  | a :: b :: r => by
    show so a ++ so sp ++ Str.join (so sp) ((b :: r).map so) = _
    rw [join_soL sp (b :: r), so_append, so_append]; rfl
section
variable {prog : Program} {w : World} {A : Around} {E : Value → Shared → Prop} {s : Shared} {h : Heap} {t : Nat} {g : Heap} {L : Addr} {m : Str → Option Value} {news : List (Addr × Obj)} {Q : Value → Shared → Prop}
theorem c_joinS {l : Addr} {vs : Array Value} {c : Nat} {u : Tok} {x : Str} {sp : List Nat} {ls : List (List Nat)} (hx : x = so sp) (S : St g L m news h) (hm : (l, W.listOf vs c) ∈ news) (hi : StrsAre vs.toList (ls.map so)) (hok : (ls.map (·.length)).sum + ls.length * sp.length ≤ 16777216)
    (hq : ∀ u t', Q (.str (so (joinL sp ls)) u) (sh s h t')) : wpAny (model prog w) A (call (.builtin "str.join") [.str x u, .ref l]) Q E (sh s h t) := by
  subst hx
  refine join_list (s := sh s h t) (S.isList hm) hi ?_ (fun u k => ?_)
  · have e : ((ls.map so).map (·.length)).sum = (ls.map (·.length)).sum := by
      rw [List.map_map]
      congr 1
    rw [e, List.length_map, so_len]
    exact hok
  · have e : Txt.join (so sp) (ls.map so) = so (joinL sp ls) := by
      unfold Txt.join
      rw [StrLaws.glued_eq_join]
      exact join_soL sp ls
    rw [e]; exact hq u k
end
theorem strs_app {a b : List Value} {ys zs : List Str} (x : StrsAre a ys) (y : StrsAre b zs) : StrsAre (a ++ b) (ys ++ zs) := by
  induction x with
  | nil => exact y
  | cons _ _ _ ih => exact .cons _ _ ih
theorem subs3 {α : Type} {a b c : α} {r : List α} : ∀ p ∈ r, p ∈ a :: b :: c :: r := fun _ hp => .tail _ (.tail _ (.tail _ hp))
end
noncomputable section
def tailL : Option (List Nat) → List Nat
  | none => []
  | some pt => [59, 32] ++ fmtL [107, 45] pt
def exOf (pt : Option (List Nat × Tok)) : List (Str × Value) := match pt with
  | none => []
  | some (l, u) => [(Str.ofString "k_", .str (so l) u)]
theorem add_fn1 : ∀ (w : World) (x dx lst : Addr) (hv : Int) (tk : Tok) (nn : Nat) (k : List Nat) (hk : ∀ c ∈ k, 33 ≤ c ∧ c < 128) (hkz : k.length ≤ 1000) (u : Tok) (v : List Nat) (hv33 : ∀ c ∈ v, 33 ≤ c ∧ c < 128) (hvz : v.length ≤ 1000) (uv : Tok)
    (pt : List Nat) (hp33 : ∀ c ∈ pt, 33 ≤ c ∧ c < 128) (hpz : pt.length ≤ 100) (up : Tok)
    (arr : Array Value) (n : Nat) (kvs : List (List Nat × List Nat)) (news : List (Addr × Obj))
    (hx : (x, instObj 182 dx) ∈ news) (hdx : (dx, hdD hv tk lst nn) ∈ news) (hlst : ∀ p ∈ news, p.1 ≠ lst) (ht : Tab news arr kvs) (hz : kvs.length ≤ 1000),
    FnR w 2 179 [.ref x, .str (so k) u, .str (so v) uv] [(Str.ofString "k_", .str (so pt) up)] "ValueError" ((lst, W.listOf arr n) :: news)
      (fun r news' => r = .none ∧ 127 ∉ k ∧ 127 ∉ v ∧ 127 ∉ pt ∧ Mut news lst (kvs ++ [(k, v ++ tailL (some pt))]) news')
      (fun news' => (127 ∈ k ∨ 127 ∈ v ∨ 127 ∈ pt) ∧ Mut news lst kvs news') := by
  intro w x dx lst hv tk nn k hk hkz u v hv33 hvz uv pt hp33 hpz up arr n kvs news hx hdx hlst ht hz
  intro p loose mean mg mb dp un gd cn cs L a ccd cl outer A₀ base g m s h t Q E C S hd hu hret hraise
  have hsz : arr.size ≤ 1000 := by rw [ht.size]; exact hz
  refine' call_fnW [(Str.ofString "k_", Value.str (so pt) up)] [(Str.ofString "self", Value.ref x), (Str.ofString "_name", Value.str (so k) u), (Str.ofString "_value", Value.str (so v) uv)] (Str.ofString "_params") _ C S ?k6 ?k7 ?k8 ?kX ?kM ?kN ?kD ?kR ?kP ?kT ?kB ?c2 ?c3 ?c4 ?c5 ?_
  case k6 => k_is
  case k7 => k_is
  case k8 => omega
  case kX => exact rfl
  case kM => exact rfl
  case kN => exact rfl
  case kD => kp_flats
  case kR => exact rfl
  case kP => exact rfl
  case kT => exact fun _ => rfl
  case kB => exact fun _ => locs rfl
  case c2 => exact rfl
  case c3 => exact rfl
  case c4 => exact rfl
  case c5 => decide
  intro D oD g' L' h' t' hltD hmod hdict FG S' C'
  have subD : ∀ {α : Type} {a b : α} {r : List α}, ∀ p ∈ r, p ∈ a :: b :: r := fun _ hp => .tail _ (.tail _ hp)
  walk_at "V"
  refine ⟨fun _ => ?_, fun hb => absurd hb.symm Bool.false_ne_true⟩
  walk_at "V"
  rename_i pa h₁ hpa S₁ h₂ t₂ S₂ _
  refine conv_fn w x v hv33 (by omega) false uv _ C' S₂ (by walk_at "RM") (by walk_at "RM") ?_ ?_
  rotate_left
  · rintro e g₁ news' h₁ t₂ F₁ R hsm ⟨rfl, h127⟩
    refine xl_on C'.B F₁ R hsm fun h₂ R' hsm' => ?_
    exact hraise _ _ _ _ _ FG (Rs_sub R' fun p hp => .tail _ (.tail _ hp)) hsm' ⟨.inr (.inl h127), .nil ht⟩
  rintro _ _ h₃ t₃ S₃ ⟨rfl, rfl, h127v⟩
  walk_at "V"
  rename_i h₄ t₄ S₄
  refine c_append (vs := #[]) (n := 0) S₄ (fun p hp => Nat.ne_of_lt (hpa p hp)) (by decide) fun h₅ n₅ S₅ => ?_
  walk_at "V"
  obtain ⟨ep, hat⟩ := KdkAt.of hdict
  obtain ⟨es, hex, _⟩ := id hat
  refine gm_items S₅ (.tail _ (.head _)) ⟨hex.1, hex.2.1⟩ ?_
  walk_at "V"
  refine c_items S₅ (.tail _ (.head _)) hdict hmod fun vw h₆ hvw S₆ => ?_
  have hpav : pa < vw := hvw _ (.head _)
  refine for_items (kvs := [(Str.ofString "k_", Value.str (so pt) up)]) (o := oD) (d := D) rfl rfl S₆ (.head _) hat
    (fun i m₁ n₁ => ∃ ps np, n₁ = (vw, viewO D) :: (pa, W.listOf ps np) :: (D, oD) :: (lst, W.listOf arr n) :: news ∧ ((i = 0 ∧ StrsAre ps.toList ([v].map so)) ∨ (i = 1 ∧ 127 ∉ pt ∧ StrsAre ps.toList ([v, fmtL [107, 45] pt].map so))) ∧
      m₁ (Str.ofString "parts") = some (.ref pa) ∧ m₁ (Str.ofString "self") = some (.ref x) ∧ m₁ (Str.ofString "_name") = some (.str (so k) u)) ⟨_, _, rfl, .inl ⟨rfl, .cons _ _ .nil⟩, rfl, rfl, rfl⟩ (fun i m₁ n₁ hJ => ?hl) ?turn ?done (by passes_own)
  case hl =>
    obtain ⟨ps, np, rfl, _⟩ := hJ
    exact .tail _ (.tail _ (.head _))
  case turn =>
    rintro i kk vv uu m₁ n₁ h₇ t₇ I oI T hkv ⟨ps, np, rfl, hi, e1, e2, e3⟩ hI hTI hT S₇
    have hi0 : i = 0 := by
      have := (List.getElem?_eq_some_iff.mp hkv).1
      simp at this; exact this
    subst hi0
    simp only [List.getElem?_cons_zero, Option.some.injEq, Prod.mk.injEq] at hkv
    obtain ⟨rfl, rfl⟩ := hkv
    obtain ⟨_, hps⟩ | ⟨h01, _⟩ := hi
    rotate_left
    · cases h01
    rw [show Str.ofString "k_" = so [107, 95] by decide +kernel] at S₇
    refine a_pair rfl S₇ (.tail _ (.head _)) fun h₈ S₈ => ?_
    walk_at "V"
    rename_i h₉ t₉ S₉
    refine conv_fn w x [107, 95] (by decide) (by decide) true uu _ C' S₉ (by walk_at "RM") (by walk_at "RM") ?_ ?_
    rotate_left
    · rintro e g₁ news' h₁ t₂ F₁ R hsm ⟨rfl, h127⟩
      exact absurd h127 (by decide)
    rintro _ _ h₁₀ t₁₀ S₁₀ ⟨rfl, rfl, _⟩
    walk_at "V"
    refine ⟨fun hb => absurd hb Bool.false_ne_true, fun _ => ?_⟩
    walk_at "V"
    have S₁₁ := ‹St g' L' (upd (upd (upd m₁ _ _) _ _) _ _) _ _›
    refine conv_fn w x pt hp33 (by omega) false up _ C' S₁₁ (by walk_at "RM") (by walk_at "RM") ?_ ?_
    rotate_left
    · rintro e g₁ news' h₁ t₂ F₁ R hsm ⟨rfl, h127⟩
      refine xl_on C'.B F₁ R hsm fun h₂ R' hsm' => ?_
      exact hraise _ _ _ _ _ FG (Rs_sub R' fun p hp => .tail _ (.tail _ (.tail _ (.tail _ (.tail _ hp))))) hsm' ⟨.inr (.inr h127), .nil ht⟩
    rintro _ _ h₁₂ t₁₂ S₁₂ ⟨rfl, rfl, h127p⟩
    refine x_storeM S₁₂ rfl rfl fun h₁₃ t₁₃ ht₁₃ S₁₃ => ?_
    walk_at "X"
    refine c_replaceM (c := 95) (z := [45]) (by decide +kernel) (by decide +kernel) ?hu1 ?hv1 ?huv1 (by decide +kernel) (by decide) (by decide) ?ht1 fun t' k' hk' => ?_
    case hu1 => exact Nat.ne_of_gt ht₁₃
    case hv1 => exact Nat.succ_ne_zero _
    case huv1 => exact Nat.ne_of_lt (Nat.lt_succ_self _)
    case ht1 => exact Nat.succ_pos _
    rw [show subC 95 [45] [107, 95] = [107, 45] by decide +kernel]
    walk_at "V"
    refine fmt_fn w [107, 45] pt (by decide) hpz _ _ _ C' S₁₃ (by walk_at "RM") (by walk_at "RM") ?_
    rintro _ _ h₁₄ t₁₄ S₁₄ _ _ ⟨rfl, uf, rfl⟩
    walk_at "V"
    have hpaI : pa ≠ I := hI _ (.tail _ (.head _))
    have hpaT : pa < T := hT _ (.tail _ (.head _))
    refine c_append (vs := ps) (n := np) (news := (I, oI) :: (vw, viewO D) :: (D, oD) :: (lst, W.listOf arr n) :: news) (S₁₄.sub ?hs) ?hl2 ?hz2 fun h₁₅ n₁₅ S₁₅ => ?_
    case hs =>
      rintro p (_ | ⟨_, _ | ⟨_, _ | ⟨_, hp⟩⟩⟩)
      · exact .tail _ (.tail _ (.tail _ (.head _)))
      · exact .head _
      · exact .tail _ (.tail _ (.head _))
      · exact .tail _ (.tail _ (.tail _ (.tail _ hp)))
    case hl2 =>
      rintro p (_ | ⟨_, _ | ⟨_, hp⟩⟩)
      · exact Ne.symm hpaI
      · exact Ne.symm (Nat.ne_of_lt hpav)
      · exact Nat.ne_of_lt (hpa p hp)
    case hz2 =>
      have := StrsAre.len_eq hps
      simp at this
      rw [sizeLine_eq]; omega
    walk_at "V"
    refine turn_next ((vw, viewO D) :: (pa, W.listOf (ps.push (.str (so (fmtL [107, 45] pt)) uf)) n₁₅) :: (D, oD) :: (lst, W.listOf arr n) :: news) S₁₅ (.tail _ (.head _)) ?hs3 ?ho3 ⟨_, _, rfl, .inr ⟨rfl, h127p, ?hps⟩, e1, e2, e3⟩
    case hs3 =>
      rintro p (_ | ⟨_, _ | ⟨_, hp⟩⟩)
      · exact .tail _ (.tail _ (.head _))
      · exact .head _
      · exact .tail _ (.tail _ (.tail _ hp))
    case ho3 =>
      rintro p (_ | ⟨_, _ | ⟨_, hp⟩⟩)
      · exact hI _ (.head _)
      · exact hpaI
      · exact hI _ (.tail _ (.tail _ hp))
    case hps =>
      rw [Array.toList_push]
      exact strs_app (ys := [so v]) (zs := [so (fmtL [107, 45] pt)]) hps (.cons _ _ .nil)
  case done =>
    rintro m₁ n₁ h₇ t₇ ⟨ps, np, rfl, hi, e1, e2, e3⟩ S₇
    obtain ⟨h01, _⟩ | ⟨_, h127p, hps⟩ := hi
    · cases h01
    walk_at "V"
    refine conv_fn w x k hk (by omega) true u _ C' S₇ (by walk_at "RM") (by walk_at "RM") ?_ ?_
    rotate_left
    · rintro e g₁ news' h₁ t₂ F₁ R hsm ⟨rfl, h127⟩
      refine xl_on C'.B F₁ R hsm fun h₂ R' hsm' => ?_
      exact hraise _ _ _ _ _ FG (Rs_sub R' fun p hp => .tail _ (.tail _ (.tail _ hp))) hsm' ⟨.inl h127, .nil ht⟩
    rintro _ _ h₈ t₈ S₈ ⟨rfl, rfl, h127k⟩
    walk_at "V"
    have hfl : (fmtL [107, 45] pt).length ≤ 1000 := by
      have h92 := subC_len 92 [92, 92] (by decide) (by decide) pt
      have h34 := subC_len 34 [92, 34] (by decide) (by decide) (subC 92 [92, 92] pt)
      unfold fmtL
      split <;> simp <;> omega
    refine c_joinS (sp := [59, 32]) (ls := [v, fmtL [107, 45] pt]) (by decide +kernel) S₈ (.tail _ (.head _)) hps (by simp; omega) fun uj tj => ?_
    walk_at "V"
    rename_i T h₉ hT S₉
    refine c_append (vs := arr) (n := n) (news := (T, tupO [.str (so k) u, .str (so (joinL [59, 32] [v, fmtL [107, 45] pt])) uj]) :: news) (S₉.sub ?hs4) ?hl4 ?hz4 fun h₁₀ n₁₀ S₁₀ => ?_
    case hs4 =>
      rintro p (_ | ⟨_, _ | ⟨_, hp⟩⟩)
      · exact .tail _ (.tail _ (.tail _ (.tail _ (.head _))))
      · exact .head _
      · exact .tail _ (.tail _ (.tail _ (.tail _ (.tail _ hp))))
    case hl4 =>
      rintro p (_ | ⟨_, hp⟩)
      · exact Ne.symm (Nat.ne_of_lt (hT _ (.tail _ (.tail _ (.tail _ (.head _))))))
      · exact hlst p hp
    case hz4 => rw [sizeLine_eq]; omega
    walk_at "V"
    refine leave_n S₁₀ fun S₁₁ => hret _ _ _ _ S₁₁ ⟨rfl, h127k, h127v, h127p, _, n₁₀, [(T, tupO [.str (so k) u, .str (so (joinL [59, 32] [v, fmtL [107, 45] pt])) uj])], rfl, ?_, ?_⟩
    · intro p hp
      rw [List.mem_singleton.mp hp]
      exact Ne.symm (Nat.ne_of_lt (hT _ (.tail _ (.tail _ (.tail _ (.head _))))))
    · refine (ht.mono fun p hp => .tail _ hp).push ⟨T, u, uj, rfl, ?_⟩
      have e : v ++ tailL (some pt) = joinL [59, 32] [v, fmtL [107, 45] pt] := by simp [tailL, joinL]
      rw [e]
      exact .head _
end
noncomputable section
theorem add_fn0 : ∀ (w : World) (x dx lst : Addr) (hv : Int) (tk : Tok) (nn : Nat) (k : List Nat) (hk : ∀ c ∈ k, 33 ≤ c ∧ c < 128) (hkz : k.length ≤ 1000) (u : Tok) (v : List Nat) (hv33 : ∀ c ∈ v, 33 ≤ c ∧ c < 128) (hvz : v.length ≤ 1000) (uv : Tok)
    (arr : Array Value) (n : Nat) (kvs : List (List Nat × List Nat)) (news : List (Addr × Obj))
    (hx : (x, instObj 182 dx) ∈ news) (hdx : (dx, hdD hv tk lst nn) ∈ news) (hlst : ∀ p ∈ news, p.1 ≠ lst) (ht : Tab news arr kvs) (hz : kvs.length ≤ 1000),
    FnR w 2 179 [.ref x, .str (so k) u, .str (so v) uv] [] "ValueError" ((lst, W.listOf arr n) :: news)
      (fun r news' => r = .none ∧ 127 ∉ k ∧ 127 ∉ v ∧ Mut news lst (kvs ++ [(k, v)]) news')
      (fun news' => (127 ∈ k ∨ 127 ∈ v) ∧ Mut news lst kvs news') := by
  intro w x dx lst hv tk nn k hk hkz u v hv33 hvz uv arr n kvs news hx hdx hlst ht hz
  intro p loose mean mg mb dp un gd cn cs L a ccd cl outer A₀ base g m s h t Q E C S hd hu hret hraise
  have hsz : arr.size ≤ 1000 := by rw [ht.size]; exact hz
  refine' call_fnW [] [(Str.ofString "self", Value.ref x), (Str.ofString "_name", Value.str (so k) u), (Str.ofString "_value", Value.str (so v) uv)] (Str.ofString "_params") _ C S ?k6 ?k7 ?k8 ?kX ?kM ?kN ?kD ?kR ?kP ?kT ?kB ?c2 ?c3 ?c4 ?c5 ?_
  case k6 => k_is
  case k7 => k_is
  case k8 => omega
  case kX => exact rfl
  case kM => exact rfl
  case kN => exact rfl
  case kD => kp_flats
  case kR => exact rfl
  case kP => exact rfl
  case kT => exact fun _ => rfl
  case kB => exact fun _ => locs rfl
  case c2 => exact rfl
  case c3 => exact rfl
  case c4 => exact rfl
  case c5 => decide
  intro D oD g' L' h' t' hltD hmod hdict FG S' C'
  have subD : ∀ {α : Type} {a b : α} {r : List α}, ∀ p ∈ r, p ∈ a :: b :: r := fun _ hp => .tail _ (.tail _ hp)
  walk_at "V"
  refine ⟨fun _ => ?_, fun hb => absurd hb.symm Bool.false_ne_true⟩
  walk_at "V"
  rename_i pa h₁ hpa S₁ h₂ t₂ S₂ _
  refine conv_fn w x v hv33 (by omega) false uv _ C' S₂ (by walk_at "RM") (by walk_at "RM") ?_ ?_
  rotate_left
  · rintro e g₁ news' h₁ t₂ F₁ R hsm ⟨rfl, h127⟩
    refine xl_on C'.B F₁ R hsm fun h₂ R' hsm' => ?_
    exact hraise _ _ _ _ _ FG (Rs_sub R' fun p hp => .tail _ (.tail _ hp)) hsm' ⟨.inr h127, .nil ht⟩
  rintro _ _ h₃ t₃ S₃ ⟨rfl, rfl, h127v⟩
  walk_at "V"
  rename_i h₄ t₄ S₄
  refine c_append (vs := #[]) (n := 0) S₄ (fun p hp => Nat.ne_of_lt (hpa p hp)) (by decide) fun h₅ n₅ S₅ => ?_
  walk_at "V"
  obtain ⟨ep, hat⟩ := KdkAt.of hdict
  obtain ⟨es, hex, _⟩ := id hat
  refine gm_items S₅ (.tail _ (.head _)) ⟨hex.1, hex.2.1⟩ ?_
  walk_at "V"
  refine c_items S₅ (.tail _ (.head _)) hdict hmod fun vw h₆ hvw S₆ => ?_
  have hpav : pa < vw := hvw _ (.head _)
  refine for_items (kvs := []) (o := oD) (d := D) rfl rfl S₆ (.head _) hat
    (fun i m₁ n₁ => ∃ ps np, n₁ = (vw, viewO D) :: (pa, W.listOf ps np) :: (D, oD) :: (lst, W.listOf arr n) :: news ∧ StrsAre ps.toList ([v].map so) ∧
      m₁ (Str.ofString "parts") = some (.ref pa) ∧ m₁ (Str.ofString "self") = some (.ref x) ∧ m₁ (Str.ofString "_name") = some (.str (so k) u)) ⟨_, _, rfl, .cons _ _ .nil, rfl, rfl, rfl⟩ (fun i m₁ n₁ hJ => ?hl) ?turn ?done (by passes_own)
  case hl =>
    obtain ⟨ps, np, rfl, _⟩ := hJ
    exact .tail _ (.tail _ (.head _))
  case turn =>
    rintro i kk vv uu m₁ n₁ h₇ t₇ I oI T hkv
    simp at hkv
  case done =>
    rintro m₁ n₁ h₇ t₇ ⟨ps, np, rfl, hps, e1, e2, e3⟩ S₇
    walk_at "V"
    refine conv_fn w x k hk (by omega) true u _ C' S₇ (by walk_at "RM") (by walk_at "RM") ?_ ?_
    rotate_left
    · rintro e g₁ news' h₁ t₂ F₁ R hsm ⟨rfl, h127⟩
      refine xl_on C'.B F₁ R hsm fun h₂ R' hsm' => ?_
      exact hraise _ _ _ _ _ FG (Rs_sub R' fun p hp => .tail _ (.tail _ (.tail _ hp))) hsm' ⟨.inl h127, .nil ht⟩
    rintro _ _ h₈ t₈ S₈ ⟨rfl, rfl, h127k⟩
    walk_at "V"
    refine c_joinS (sp := [59, 32]) (ls := [v]) (by decide +kernel) S₈ (.tail _ (.head _)) hps (by simp; omega) fun uj tj => ?_
    walk_at "V"
    rename_i T h₉ hT S₉
    refine c_append (vs := arr) (n := n) (news := (T, tupO [.str (so k) u, .str (so (joinL [59, 32] [v])) uj]) :: news) (S₉.sub ?hs4) ?hl4 ?hz4 fun h₁₀ n₁₀ S₁₀ => ?_
    case hs4 =>
      rintro p (_ | ⟨_, _ | ⟨_, hp⟩⟩)
      · exact .tail _ (.tail _ (.tail _ (.tail _ (.head _))))
      · exact .head _
      · exact .tail _ (.tail _ (.tail _ (.tail _ (.tail _ hp))))
    case hl4 =>
      rintro p (_ | ⟨_, hp⟩)
      · exact Ne.symm (Nat.ne_of_lt (hT _ (.tail _ (.tail _ (.tail _ (.head _))))))
      · exact hlst p hp
    case hz4 => rw [sizeLine_eq]; omega
    walk_at "V"
    refine leave_n S₁₀ fun S₁₁ => hret _ _ _ _ S₁₁ ⟨rfl, h127k, h127v, _, n₁₀, [(T, tupO [.str (so k) u, .str (so (joinL [59, 32] [v])) uj])], rfl, ?_, ?_⟩
    · intro p hp
      rw [List.mem_singleton.mp hp]
      exact Ne.symm (Nat.ne_of_lt (hT _ (.tail _ (.tail _ (.tail _ (.head _))))))
    · refine (ht.mono fun p hp => .tail _ hp).push ⟨T, u, uj, rfl, ?_⟩
      exact .head _
end
noncomputable section
def byL (l : List Nat) : Array UInt8 := (l.map fun c => c.toUInt8).toArray
section
open Builtin Builtin.Str Builtin._codecs
theorem fold_latin : ∀ (l : List Nat) (acc : Array UInt8), l.foldl (fun acc y => acc ++ (latin1Codec.bytesOf y).toArray) acc = acc ++ byL l
  | [], acc => by simp [byL]
  | c :: r, acc => by
    rw [List.foldl_cons, fold_latin r]
    show acc ++ #[c.toUInt8] ++ byL r = acc ++ byL (c :: r)
    simp [byL]
theorem clean_all (l : List Nat) (hl : ∀ c ∈ l, c < 256) : (l.toArray.findIdx? latin1Codec.bad) = none := by
  rw [Array.findIdx?_eq_none_iff]
  intro x hx
  have := hl x (by simpa using hx)
  show decide (x ≥ 256) = false
  simp; omega
theorem narrow_latin {M : Model} {A : Around} {E : Value → Shared → Prop} {s : Shared} {Q : Array UInt8 → Shared → Prop} (v : Value) (l : List Nat) (hl : ∀ c ∈ l, c < 256) (hz : l.length ≤ sizeLine) (hq : Q (byL l) s) :
    wpAny M A (encodeNarrow "str.encode" latin1Codec none v (so l)) Q E s := by
  unfold encodeNarrow
  dsimp only
  rw [KPc.range_list]
  refine wpAny_bind (wpAny_forIn_list _ (fun rest b s' => s' = s ∧ ((b.1 = 0 ∧ b.2.1 = #[] ∧ rest.length = l.length) ∨ (b.1 = l.length ∧ b.2.1 = byL l))) _ (fun x rest b s' hI => ?_) (fun b s' hI => ?_) _ _ ⟨rfl, .inl ⟨rfl, rfl, ?_⟩⟩)
  · obtain ⟨rfl, hI⟩ := hI
    obtain ⟨i, out, st⟩ := b
    dsimp only at hI ⊢
    have hbs : (byL l).size = l.length := by simp [byL]
    have hout : ¬ out.size > sizeLine := by
      rcases hI with ⟨_, rfl, _⟩ | ⟨_, rfl⟩
      · simp
      · rw [hbs]; omega
    rw [if_neg hout]
    rcases hI with ⟨rfl, rfl, hr⟩ | ⟨rfl, rfl⟩
    · cases l with
      | nil => simp at hr
      | cons c r =>
        have hc := hl c (.head _)
        have hbad : latin1Codec.bad c = false := by show decide (c ≥ 256) = false; simp; omega
        have hx : (so (c :: r)).cps[0]? = some c := rfl
        rw [hx]
        dsimp only
        rw [hbad, if_pos (show (!false) = true from rfl)]
        have hex : (so (c :: r)).cps.extract 0 (so (c :: r)).cps.size = (c :: r).toArray := by simp
        rw [hex, clean_all _ hl]
        refine wpAny_pure ⟨rfl, .inr ⟨?_, ?_⟩⟩
        · show 0 + (c :: r).toArray.size = _
          simp
        · show ((c :: r).toArray.extract 0 (c :: r).toArray.size).foldl _ #[] = _
          rw [Array.extract_size, ← Array.foldl_toList, List.toList_toArray, fold_latin]
          simp
    · have hx : (so l).cps[l.length]? = none := by simp
      rw [hx]
      exact wpAny_pure (wpAny_pure hq)
  · obtain ⟨rfl, hI⟩ := hI
    obtain ⟨i, out, st⟩ := b
    dsimp only at hI ⊢
    rcases hI with ⟨rfl, rfl, hr⟩ | ⟨rfl, rfl⟩
    · have : l = [] := by cases l with
        | nil => rfl
        | cons c r => simp at hr
      subst this
      exact wpAny_pure hq
    · exact wpAny_pure hq
  · rw [so_len]; simp
theorem road_latin (id : String) (self : Value) (x : Str) (errors : Option Str) : encodeRoad id self x (Str.ofString "iso-8859-1") errors = (do mkBytes (← encodeNarrow id latin1Codec errors self x)) := by
  first | rfl | (unfold encodeRoad; rfl)
theorem tree_latin (x : Str) (t u : Tok) : «str.encode» ⟨[.str x t, .str (Str.ofString "iso-8859-1") u], []⟩ = (do ret (← encodeRoad "str.encode" (.str x t) x (Str.ofString "iso-8859-1") none)) := by
  first | rfl | kernel_rfl
end
section
variable {prog : Program} {w : World} {A : Around} {E : Value → Shared → Prop} {s : Shared} {h : Heap} {t : Nat} {Q : Value → Shared → Prop}
theorem c_encode {l : List Nat} {u v : Tok} (hl : ∀ c ∈ l, c < 256) (hz : l.length ≤ sizeLine) (hq : ∀ u t', Q (.bytes (byL l) u) (sh s h t')) : wpAny (model prog w) A (call (.builtin "str.encode") [.str (so l) u, .str (Str.ofString "iso-8859-1") v]) Q E (sh s h t) := by
  refine wpAny_call_entry F.slot_str_encode (typeIs_str _ _ _) F.entry_str_encode ?_ (F.args_str_encode_2 _ _)
  rw [tree_latin]
  refine wpAny_bind ?_
  rw [road_latin]
  refine wpAny_bind (narrow_latin _ l hl hz ?_)
  refine wpAny_mkBytes ?_ (by simpa [byL] using hz)
  exact wpAny_pure ⟨_, rfl, hq _ _⟩
end
end
noncomputable section
def rowT (kv : List Nat × List Nat) : List Nat := kv.1 ++ [58, 32] ++ kv.2
def strL (kvs : List (List Nat × List Nat)) : List Nat := joinL [13, 10] (kvs.map rowT ++ [[], []])
theorem paired_rows {news : List (Addr × Obj)} {l ys : List Value} {kvs : List (List Nat × List Nat)} (x : Paired (RowAt news) l kvs) (y : Paired (fun v y => ∀ kv, RowAt news v kv → ∃ u, y = .str (so (rowT kv)) u) l ys) : StrsAre ys ((kvs.map rowT).map so) := by
  induction x generalizing ys with
  | nil => cases y; exact .nil
  | cons h _ ih =>
    cases y with
    | cons h' r =>
      obtain ⟨u, rfl⟩ := h' _ h
      exact .cons _ _ (ih r)
theorem sum_le {α : Type} (f : α → Nat) (k : Nat) : ∀ l : List α, (∀ a ∈ l, f a ≤ k) → (l.map f).sum ≤ k * l.length
  | [], _ => by simp
  | a :: r, h => by
    have h1 := h a (.head _)
    have h2 := sum_le f k r fun b hb => h b (.tail _ hb)
    rw [List.map_cons, List.sum_cons, List.length_cons, Nat.mul_succ]
    omega
theorem str_fn : ∀ (w : World) (x dx lst : Addr) (hv : Int) (tk : Tok) (nn : Nat) (arr : Array Value) (n : Nat) (kvs : List (List Nat × List Nat)) (news : List (Addr × Obj))
    (hx : (x, instObj 182 dx) ∈ news) (hdx : (dx, hdD hv tk lst nn) ∈ news) (hlst : (lst, W.listOf arr n) ∈ news) (ht : Tab news arr kvs) (hz : kvs.length ≤ 1000) (hkv : ∀ kv ∈ kvs, kv.1.length ≤ 1000 ∧ kv.2.length ≤ 10000),
    Fn w 1 158 [.ref x] [] news (fun v tl => tl = [] ∧ ∃ u, v = .str (so (strL kvs)) u) := by
  intro w x dx lst hv tk nn arr n kvs news hx hdx hlst ht hz hkv
  intro p loose mean mg mb dp un gd cn cs L a ccd cl outer A₀ base g m s h t Q E C S hd hu hret
  refine' call_fn [(Str.ofString "self", Value.ref x)] C S ?k6 ?k7 ?k8 ?k9 ?kB ?c2 ?c3 ?c4 ?c5 ?_
  case k6 => k_is
  case k7 => k_is
  case k8 => omega
  case k9 => exact BindsTo.of_eq rfl
  case kB => exact locs rfl
  case c2 => exact rfl
  case c3 => exact rfl
  case c4 => exact rfl
  case c5 => decide
  intro g' L' h' t' S' C' hlt G
  have hts : arr.size ≤ 1000 := by rw [ht.size]; omega
  walk_at "V"
  refine' e_comp (fun _ => true) (fun v y => ∀ kv, RowAt news v kv → ∃ u, y = .str (so (rowT kv)) u) (closureFor_none (by decide)) (by decide) rfl (by decide) rfl (fun _ => rfl) ?_
  walk_at "V"
  refine comp_list rfl S' (S'.isList hlst) (by rw [sizeLine_eq]; omega) (fun C i v s' h₂ t₂ mC E' hv S₂ hn hm => wpAny_tests_nil ⟨rfl, h₂, t₂, rfl, fun _ _ e => e⟩) (fun C i v s' h₂ t₁ mC E' hv _ S₂ hn hm => ?_) ?_
  · obtain ⟨kv, hkvi, hrow⟩ := ht.at_ hv
    have huq : ∀ kv', RowAt news v kv' → kv' = kv := fun kv' y => RowAt.uniq (news := news) S₂ y hrow
    obtain ⟨hl1, hl2⟩ := hkv kv (List.mem_of_getElem? hkvi)
    obtain ⟨tt, u₁', u₂', rfl, htm⟩ := hrow
    walk_at "V"
    refine o_fmtH (a := kv.1) (b := kv.2) S₂ htm hl1 hl2 fun u₃ t₃ => ?_
    exact ⟨fun kv' y => ⟨u₃, by rw [huq kv' y]; rfl⟩, h₂, t₃, rfl, fun _ _ e => e⟩
  · intro D h₂ t₂ ys nD S₂ hneD hk₂ hp
    rw [filter_tt] at hp
    have hs := paired_rows ht hp
    have hyz : ys.size = kvs.length := by
      have := StrsAre.len_eq hs
      simpa using this
    walk_at "V"
    rename_i S₃
    have hall : ∀ u₁ u₂ : Tok, StrsAre (ys.toList ++ #[Value.str (Str.ofString "") u₁, Value.str (Str.ofString "") u₂].toList).toArray.toList ((kvs.map rowT ++ [[], []]).map so) := by
      intro u₁ u₂
      rw [List.map_append]
      refine strs_app hs ?_
      rw [so_empty]
      exact .cons _ _ (.cons _ _ .nil)
    have hsum : ((kvs.map rowT ++ [[], []]).map (fun l : List Nat => l.length)).sum ≤ 11002 * kvs.length := by
      rw [List.map_append, List.sum_append, List.map_map]
      simp only [List.map_cons, List.map_nil, List.length_nil, List.sum_cons, List.sum_nil, Nat.add_zero]
      refine sum_le _ 11002 kvs fun kv hkv' => ?_
      obtain ⟨h1, h2⟩ := hkv kv hkv'
      show (kv.1 ++ [58, 32] ++ kv.2).length ≤ _
      simp; omega
    refine c_joinS (sp := [13, 10]) (ls := kvs.map rowT ++ [[], []]) (by decide +kernel) S₃ (.head _) (hall _ _) ?_ fun uj tj => ?_
    · have h2 : (kvs.map rowT ++ [[], []]).length = kvs.length + 2 := by simp
      rw [h2]
      simp only [List.length_cons, List.length_nil]
      omega
    · exact leave_r S₃ fun S₄ => hret _ [] _ _ (S₄.sub fun p hp => .tail _ (.tail _ (.tail _ hp))) (keep_of S G S₃ fun p hp => .tail _ (.tail _ (.tail _ hp))) (fun _ _ _ hp => by cases hp) ⟨rfl, _, rfl⟩
end
noncomputable section
section
variable {w : World} {E : Value → Shared → Prop} {s : Shared} {h : Heap} {t : Nat} {g : Heap} {L : Addr} {m : Str → Option Value} {news : List (Addr × Obj)}
  {cn : Str} {cs : Scope} {a : Addr} {ccd : Value} {cl : List (Str × Addr)} {dp un : Nat} {gd : Option (List Code)} {outer : List Env} {A₀ : Around} {base : Heap} {p : Program} {loose : List Str} {mean : ExcName → Option Value} {mg mb : Str → Option Value}
  {x dx lst f : Addr} {hv : Int} {tk : Tok} {n : Nat} {Q : Value → Shared → Prop}
theorem c_str_inst (C : Cx w p loose mean mg mb cs outer A₀ base g) (S : St g L m news h) (hx : (x, instObj 182 dx) ∈ news) (hdx : (dx, hdD hv tk lst n) ∈ news) (hu : un + 4 < cLine)
    (hs : findIn (hd.heap_39 w.params) (.ref 182) "__str__" = some (some (.ref f))) (hf : isFn (hd.heap_39 w.params) (.ref f) = true)
    (hq : wpAny (model (PySem.Challenge.rw_pm0042_01.row.prog) w) (ktrTop dp (un + 2) gd cn cs L a ccd cl outer) (call (.ref f) [.ref x]) (fun v s' => ∃ y u, v = .str y u ∧ Q v s') E (sh s h t)) :
    wpAny (model (PySem.Challenge.rw_pm0042_01.row.prog) w) (ktrTop dp un gd cn cs L a ccd cl outer) (call (.type "str") [.ref x]) Q E (sh s h t) := by
  refine kso_call (s := sh s h t) (A := ktrTop dp un gd cn cs L a ccd cl outer) ?_ (C.in S) (InstAt.of_news S.N hx hdx) hs hf (wpAny_mono hq (fun v s' q => ?_) fun _ _ x => x)
  · show un + 1 + 1 < cLine; omega
  · obtain ⟨y, u, rfl, q⟩ := q
    exact q
theorem special_at {M : Model} {A : Around} {name : Str} {R : Option Value → Shared → Prop} (C : Cx w p loose mean mg mb cs outer A₀ base g) (S : St g L m news h) (hx : (x, instObj 182 dx) ∈ news) (hdx : (dx, hdD hv tk lst n) ∈ news)
    (hs : findIn (hd.heap_39 w.params) (.ref 182) name = some (some (.ref f))) (hq : R (some (.ref f)) (sh s h t)) : wpAny M A (specialOf (.ref x) name) R E (sh s h t) := by
  have I := InstAt.of_news S.N hx hdx
  unfold specialOf
  exact wpAny_bind (I.type.here ((looks_findIn (C.in S) hs).here hq))
theorem c_bytes_inst (C : Cx w p loose mean mg mb cs outer A₀ base g) (S : St g L m news h) (hx : (x, instObj 182 dx) ∈ news) (hdx : (dx, hdD hv tk lst n) ∈ news)
    (hs : findIn (hd.heap_39 w.params) (.ref 182) "__bytes__" = some (some (.ref f))) (hf : isFn (hd.heap_39 w.params) (.ref f) = true)
    (hq : wpAny (model (PySem.Challenge.rw_pm0042_01.row.prog) w) (ktrTop dp (un + 2) gd cn cs L a ccd cl outer) (call (.ref f) [.ref x]) (fun v s' => ∃ y u, v = .bytes y u ∧ Q v s') E (sh s h t)) :
    wpAny (model (PySem.Challenge.rw_pm0042_01.row.prog) w) (ktrTop dp un gd cn cs L a ccd cl outer) (call (.type "bytes") [.ref x]) Q E (sh s h t) := by
  refine callType_codes (T := "bytes") (Bi := Builtin.«object.__init__») (Q₁ := fun r s₁ => ∃ y u, r = .bytes y u ∧ Q r s₁) F.bm_called (F.bm_typeCall _) F.entry_object_init ?_ ?_
  · refine codeAny_of_tree ?_
    show wpAny _ _ (do checkBuiltinCall "bytes.__new__" ⟨[.type "bytes", .ref x], []⟩; again (.builtin "bytes.__new__" ⟨[.type "bytes", .ref x], []⟩)) _ _ _
    refine wpAny_bind (wpAny_of_eq (F.bm_newCall _) (wpAny_pure ⟨plainId_quiet (by decide +kernel) _, codeAny_builtin F.bm_entry ?_⟩))
    rw [Around.under_plainId (by decide +kernel) _]
    unfold Builtin.«bytes.__new__»
    refine wpAny_bind (wpAny_of_eq (a := true) (by first | rfl | kernel_rfl) ?_)
    refine wpAny_bind (wpAny_of_eq F.bm_sub ?_)
    refine wpAny_bind (wpAny_of_eq (F.bm_bind _) ?_)
    dsimp only
    refine wpAny_bind (wpAny_of_eq (a := ()) (by first | rfl | kernel_rfl) ?_)
    refine wpAny_bind (wpAny_of_eq (a := ()) (by first | rfl | kernel_rfl) ?_)
    rw [if_neg (show ¬ ((none : Option Value).isSome = true) from Bool.false_ne_true)]
    refine wpAny_bind (special_at C S hx hdx hs ?_)
    dsimp only
    refine wpAny_bind (wpAny_rule ?_)
    refine wpAny_bind (m := callSpecial? (.ref x) (Str.ofString "__bytes__")) (special_fn (s := sh s h t) (C.in S) (InstAt.of_news S.N hx hdx) hs (beq_iff_eq.mp hf) (wpAny_mono hq (fun r s₁ q => ?_) fun _ _ y => y))
    obtain ⟨y, u, rfl, q⟩ := q
    dsimp only
    refine wpAny_bind (wpAny_isInstance (T := "bytes") (b := true) (typeIs_bytes _ _ _) F.bm_sub ?_)
    rw [if_neg (show ¬ ((!true) = true) from Bool.false_ne_true)]
    show wpAny _ _ (if (Value.type "bytes" == Value.type "bytes") = true then _ else _) _ _ _
    refine bm_if_true (by decide) ?_
    first
      | exact wpAny_pure ⟨_, rfl, _, _, rfl, q⟩
      | exact wpAny_pure ⟨_, _, rfl, q⟩
      | exact wpAny_bind (wpAny_pure (wpAny_pure ⟨_, rfl, _, _, rfl, q⟩))
      | exact wpAny_bind (wpAny_pure (wpAny_pure ⟨_, _, rfl, q⟩))
  · rintro obj s₁ ⟨y, u, rfl, hq⟩
    exact ⟨typeIs_bytes _ _ _, F.args_object_init_2 _ _, object_init_meets F.bm_called.init.lookup F.bm_called.made (by decide) (PySem.Challenge.rw_pm0042_01.row.prog) w _ _ s₁ ⟨typeIs_bytes _ _ _, rfl, hq⟩⟩
end
end
local macro_rules | `(tactic| walk_at "W8") => `(tactic| first
  | ((with_reducible refine' c_str_inst ?C ?S ?hx ?hdx ?hu ?hs ?hf ?_); (case C | S => assumption); (case hx | hdx => walk_at "MEM"); (case hu => omega); (case hs | hf => k_is))
  | ((with_reducible refine' c_bytes_inst ?C ?S ?hx ?hdx ?hs ?hf ?_); (case C | S => assumption); (case hx | hdx => walk_at "MEM"); (case hs | hf => k_is))
  | fail)
noncomputable section
theorem joinL_mem (sp : List Nat) (P : Nat → Prop) (hs : ∀ c ∈ sp, P c) : ∀ ls : List (List Nat), (∀ l ∈ ls, ∀ c ∈ l, P c) → ∀ c ∈ joinL sp ls, P c
  | [], _ => fun c hc => by cases hc
  | [a], h => h a (.head _)
  | a :: b :: r, h => fun c hc => by
    rcases List.mem_append.mp hc with hc | hc
    · rcases List.mem_append.mp hc with hc | hc
      · exact h a (.head _) c hc
      · exact hs c hc
    · exact joinL_mem sp P hs (b :: r) (fun l hl => h l (.tail _ hl)) c hc
theorem joinL_len (sp : List Nat) : ∀ ls : List (List Nat), (joinL sp ls).length ≤ (ls.map (fun l : List Nat => l.length)).sum + ls.length * sp.length
  | [] => by simp [joinL]
  | [a] => by simp [joinL]
  | a :: b :: r => by
    have := joinL_len sp (b :: r)
    show (a ++ sp ++ joinL sp (b :: r)).length ≤ _
    simp only [List.length_append, List.map_cons, List.sum_cons, List.length_cons, Nat.add_mul, Nat.one_mul] at this ⊢
    omega
theorem strL_ok (kvs : List (List Nat × List Nat)) (hz : kvs.length ≤ 1000) (hkv : ∀ kv ∈ kvs, kv.1.length ≤ 1000 ∧ kv.2.length ≤ 10000 ∧ (∀ c ∈ kv.1, c < 256) ∧ (∀ c ∈ kv.2, c < 256)) : (∀ c ∈ strL kvs, c < 256) ∧ (strL kvs).length ≤ sizeLine := by
  constructor
  · refine joinL_mem _ _ (by decide) _ fun l hl => ?_
    rcases List.mem_append.mp hl with hl | hl
    · obtain ⟨kv, hk, rfl⟩ := List.mem_map.mp hl
      obtain ⟨_, _, h1, h2⟩ := hkv kv hk
      intro c hc
      rcases List.mem_append.mp hc with hc | hc
      · rcases List.mem_append.mp hc with hc | hc
        · exact h1 c hc
        · simp at hc; omega
      · exact h2 c hc
    · intro c hc
      rcases List.mem_cons.mp hl with rfl | hl
      · cases hc
      · rw [List.mem_singleton.mp hl] at hc; cases hc
  · have h1 := joinL_len [13, 10] (kvs.map rowT ++ [[], []])
    have h2 : ((kvs.map rowT ++ [[], []]).map (fun l : List Nat => l.length)).sum ≤ 11002 * kvs.length := by
      rw [List.map_append, List.sum_append, List.map_map]
      simp only [List.map_cons, List.map_nil, List.length_nil, List.sum_cons, List.sum_nil, Nat.add_zero]
      refine sum_le _ 11002 kvs fun kv hkv' => ?_
      obtain ⟨h1, h2, _⟩ := hkv kv hkv'
      show (kv.1 ++ [58, 32] ++ kv.2).length ≤ _
      simp; omega
    have h3 : (kvs.map rowT ++ [[], []]).length = kvs.length + 2 := by simp
    rw [h3] at h1
    simp only [List.length_cons, List.length_nil] at h1
    rw [sizeLine_eq]
    unfold strL
    omega
theorem bytes_fn : ∀ (w : World) (x dx lst : Addr) (hv : Int) (tk : Tok) (nn : Nat) (arr : Array Value) (n : Nat) (kvs : List (List Nat × List Nat)) (news : List (Addr × Obj))
    (hx : (x, instObj 182 dx) ∈ news) (hdx : (dx, hdD hv tk lst nn) ∈ news) (hlst : (lst, W.listOf arr n) ∈ news) (ht : Tab news arr kvs) (hz : kvs.length ≤ 1000) (hkv : ∀ kv ∈ kvs, kv.1.length ≤ 1000 ∧ kv.2.length ≤ 10000 ∧ (∀ c ∈ kv.1, c < 256) ∧ (∀ c ∈ kv.2, c < 256)),
    Fn w 3 165 [.ref x] [] news (fun v tl => tl = [] ∧ ∃ u, v = .bytes (byL (strL kvs)) u) := by
  intro w x dx lst hv tk nn arr n kvs news hx hdx hlst ht hz hkv
  obtain ⟨hok1, hok2⟩ := strL_ok kvs hz hkv
  intro p loose mean mg mb dp un gd cn cs L a ccd cl outer A₀ base g m s h t Q E C S hd hu hret
  refine' call_fn [(Str.ofString "self", Value.ref x)] C S ?k6 ?k7 ?k8 ?k9 ?kB ?c2 ?c3 ?c4 ?c5 ?_
  case k6 => k_is
  case k7 => k_is
  case k8 => omega
  case k9 => exact BindsTo.of_eq rfl
  case kB => exact locs rfl
  case c2 => exact rfl
  case c3 => exact rfl
  case c4 => exact rfl
  case c5 => decide
  intro g' L' h' t' S' C' hlt G
  walk_at "V"
  refine str_fn w x dx lst hv tk nn arr n kvs news hx hdx hlst ht hz (fun kv h => ⟨(hkv kv h).1, (hkv kv h).2.1⟩) C' S' (by walk_at "RM") (by walk_at "RM") ?_
  rintro _ _ h₁ t₁ S₁ hk₁ _ ⟨rfl, u, rfl⟩
  refine ⟨_, _, rfl, ?_⟩
  walk_at "V"
  refine c_encode hok1 hok2 fun u₂ t₂ => ?_
  exact leave_r S₁ fun S₄ => hret _ [] _ _ S₄ (keep_of S G S₁ fun p hp => hp) (fun _ _ _ hp => by cases hp) ⟨rfl, _, rfl⟩
end
noncomputable section
inductive Ans | ref | non | txt (l : List Nat) | lst (ls : List (List Nat))
def Is (news : List (Addr × Obj)) (v : Value) : Ans → Prop
  | .ref => ∃ u, v = .str (so [114, 101, 102, 117, 115, 101, 100]) u
  | .non => v = .none
  | .txt l => ∃ u, v = .str (so l) u
  | .lst ls => ∃ D ys n, v = .ref D ∧ (D, W.listOf ys n) ∈ news ∧ StrsAre ys.toList (ls.map so)
abbrev Tb := List (List Nat × List Nat)
def runC (deed : Nat) (k v pt : List Nat) (kvs : Tb) : Ans × Tb :=
  match deed with
  | 0 => if 127 ∈ k then (.ref, kvs) else if 127 ∈ v then (.ref, dropK k kvs) else (.non, dropK k kvs ++ [(k, v)])
  | 1 => if 127 ∈ k then (.ref, kvs) else (.non, dropK k kvs)
  | 2 => if 127 ∈ k then (.ref, kvs) else match sameK k kvs with | some kv => (.txt kv.2, kvs) | none => if 127 ∈ v then (.ref, kvs) else (.txt v, kvs ++ [(k, v)])
  | 3 => if 127 ∈ k ∨ 127 ∈ v then (.ref, kvs) else (.non, kvs ++ [(k, v)])
  | 4 => if 127 ∈ k ∨ 127 ∈ v ∨ 127 ∈ pt then (.ref, kvs) else (.non, kvs ++ [(k, v ++ tailL (some pt))])
  | _ => if 127 ∈ k then (.ref, kvs) else (.lst ((kvs.filter fun kv => kv.1.map low == k.map low).map (·.2)), kvs)
def Done (news : List (Addr × Obj)) (lst : Addr) (a : Ans × Tb) (v : Value) (news' : List (Addr × Obj)) : Prop := Is news' v a.1 ∧ Mut news lst a.2 news'
theorem runC_0 (k v pt : List Nat) (kvs : Tb) : runC 0 k v pt kvs = if 127 ∈ k then (.ref, kvs) else if 127 ∈ v then (.ref, dropK k kvs) else (.non, dropK k kvs ++ [(k, v)]) := rfl
theorem runC_1 (k v pt : List Nat) (kvs : Tb) : runC 1 k v pt kvs = if 127 ∈ k then (.ref, kvs) else (.non, dropK k kvs) := rfl
theorem runC_2 (k v pt : List Nat) (kvs : Tb) : runC 2 k v pt kvs = if 127 ∈ k then (.ref, kvs) else match sameK k kvs with | some kv => (.txt kv.2, kvs) | none => if 127 ∈ v then (.ref, kvs) else (.txt v, kvs ++ [(k, v)]) := rfl
theorem runC_3 (k v pt : List Nat) (kvs : Tb) : runC 3 k v pt kvs = if 127 ∈ k ∨ 127 ∈ v then (.ref, kvs) else (.non, kvs ++ [(k, v)]) := rfl
theorem runC_4 (k v pt : List Nat) (kvs : Tb) : runC 4 k v pt kvs = if 127 ∈ k ∨ 127 ∈ v ∨ 127 ∈ pt then (.ref, kvs) else (.non, kvs ++ [(k, v ++ tailL (some pt))]) := rfl
theorem runC_5 (k v pt : List Nat) (kvs : Tb) : runC 5 k v pt kvs = if 127 ∈ k then (.ref, kvs) else (.lst ((kvs.filter fun kv => kv.1.map low == k.map low).map (·.2)), kvs) := rfl
theorem refused_so : Str.ofString "refused" = so [114, 101, 102, 117, 115, 101, 100] := by decide +kernel

theorem lcall_fn0 : ∀ (w : World) (x dx lst : Addr) (hv : Int) (tk : Tok) (nn : Nat) (k : List Nat) (hk : ∀ c ∈ k, 33 ≤ c ∧ c < 128) (hkz : k.length ≤ 1000) (u : Tok) (v : List Nat) (hv33 : ∀ c ∈ v, 33 ≤ c ∧ c < 128) (hvz : v.length ≤ 1000) (uv : Tok)
    (pt : List Nat) (hp33 : ∀ c ∈ pt, 33 ≤ c ∧ c < 128) (hpz : pt.length ≤ 100) (up ud : Tok)
    (arr : Array Value) (n : Nat) (kvs : Tb) (news : List (Addr × Obj))
    (hx : (x, instObj 182 dx) ∈ news) (hdx : (dx, hdD hv tk lst nn) ∈ news) (hlst : ∀ p ∈ news, p.1 ≠ lst) (ht : Tab news arr kvs) (hz : kvs.length ≤ 1000) (hkv : ∀ kv ∈ kvs, kv.1.length ≤ 1000 ∧ ∀ c ∈ kv.1, c < 128),
    FnS w 4 229 [.ref x, .int 0 ud, .str (so k) u, .str (so v) uv, .str (so pt) up] [] ((lst, W.listOf arr n) :: news) (fun r news' => Done news lst (runC 0 k v pt kvs) r news') := by
  intro w x dx lst hv tk nn k hk hkz u v hv33 hvz uv pt hp33 hpz up ud arr n kvs news hx hdx hlst ht hz hkv
  intro p loose mean mg mb dp un gd cn cs L a ccd cl A₀ g m s h t Q E C S hd hu hret
  refine' call_fnS [(Str.ofString "table", Value.ref x), (Str.ofString "deed", Value.int 0 ud), (Str.ofString "name", Value.str (so k) u), (Str.ofString "value", Value.str (so v) uv), (Str.ofString "part", Value.str (so pt) up)] C S ?k6 ?k7 ?k8 ?k9 ?kB ?c2 ?c3 ?c4 ?c5 ?_
  case k6 => k_is
  case k7 => k_is
  case k8 => omega
  case k9 => exact BindsTo.of_eq rfl
  case kB => exact locs rfl
  case c2 => exact rfl
  case c3 => exact rfl
  case c4 => exact rfl
  case c5 => decide
  intro g' L' h' t' FG S' C' hlt D
  refine x_try ?_
  walk_at "V"
  refine ⟨fun _ => ?_, fun hb => absurd hb (by decide)⟩
  walk_at "V"
  refine set_fn w x dx lst hv tk nn k hk hkz u v hv33 hvz uv arr n kvs news hx hdx hlst ht hz hkv C' S' (by walk_at "RM") (by walk_at "RM") ?_ ?_
  rotate_left
  ·
    rintro e g₁ news' h₁ t₂ F₁ R hsm hep
    refine caught (T' := "ValueError") C' C.X C.T D F₁ R hsm (by k_is) (by decide +kernel) (by decide) ?hexc ?hnt ?hsub rfl (by decide) (by passes_own) fun h'' g'' T'' S₁₁ => ?_
    case hexc => exact isSubtype_of_subB (by decide +kernel)
    case hnt => exact isSubtype_of_subB (by decide +kernel)
    case hsub => exact isSubtype_of_subB (by decide +kernel)
    walk_at "V"
    refine ⟨g'', L', _, _, T'', S₁₁, fun S₁₂ => hret _ _ _ _ S₁₂ ?_⟩
    rw [refused_so]
    rcases hep with ⟨h1, hm⟩ | ⟨h1, h2, hm⟩
    · exact ⟨by rw [runC_0]; rw [if_pos h1]; exact ⟨_, rfl⟩, by rw [runC_0]; rw [if_pos h1]; exact hm⟩
    · exact ⟨by rw [runC_0]; rw [if_neg h1, if_pos h2]; exact ⟨_, rfl⟩, by rw [runC_0]; rw [if_neg h1, if_pos h2]; exact hm⟩
  rintro _ news' h₁ t₁ S₁ ⟨rfl, h1, h2, hm⟩
  walk_at "V"
  exact ⟨g', L', _, _, KtsTurn.refl, S₁, fun S₂ => hret _ _ _ _ S₂ ⟨by rw [runC_0]; rw [if_neg h1, if_neg h2]; rfl, by rw [runC_0]; rw [if_neg h1, if_neg h2]; exact hm⟩⟩

theorem lcall_fn1 : ∀ (w : World) (x dx lst : Addr) (hv : Int) (tk : Tok) (nn : Nat) (k : List Nat) (hk : ∀ c ∈ k, 33 ≤ c ∧ c < 128) (hkz : k.length ≤ 1000) (u : Tok) (v : List Nat) (hv33 : ∀ c ∈ v, 33 ≤ c ∧ c < 128) (hvz : v.length ≤ 1000) (uv : Tok)
    (pt : List Nat) (hp33 : ∀ c ∈ pt, 33 ≤ c ∧ c < 128) (hpz : pt.length ≤ 100) (up ud : Tok)
    (arr : Array Value) (n : Nat) (kvs : Tb) (news : List (Addr × Obj))
    (hx : (x, instObj 182 dx) ∈ news) (hdx : (dx, hdD hv tk lst nn) ∈ news) (hlst : ∀ p ∈ news, p.1 ≠ lst) (ht : Tab news arr kvs) (hz : kvs.length ≤ 1000) (hkv : ∀ kv ∈ kvs, kv.1.length ≤ 1000 ∧ ∀ c ∈ kv.1, c < 128),
    FnS w 4 229 [.ref x, .int 1 ud, .str (so k) u, .str (so v) uv, .str (so pt) up] [] ((lst, W.listOf arr n) :: news) (fun r news' => Done news lst (runC 1 k v pt kvs) r news') := by
  intro w x dx lst hv tk nn k hk hkz u v hv33 hvz uv pt hp33 hpz up ud arr n kvs news hx hdx hlst ht hz hkv
  intro p loose mean mg mb dp un gd cn cs L a ccd cl A₀ g m s h t Q E C S hd hu hret
  refine' call_fnS [(Str.ofString "table", Value.ref x), (Str.ofString "deed", Value.int 1 ud), (Str.ofString "name", Value.str (so k) u), (Str.ofString "value", Value.str (so v) uv), (Str.ofString "part", Value.str (so pt) up)] C S ?k6 ?k7 ?k8 ?k9 ?kB ?c2 ?c3 ?c4 ?c5 ?_
  case k6 => k_is
  case k7 => k_is
  case k8 => omega
  case k9 => exact BindsTo.of_eq rfl
  case kB => exact locs rfl
  case c2 => exact rfl
  case c3 => exact rfl
  case c4 => exact rfl
  case c5 => decide
  intro g' L' h' t' FG S' C' hlt D
  refine x_try ?_
  walk_at "V"
  refine ⟨fun hb => absurd hb (by decide), fun _ => ?_⟩
  walk_at "V"
  refine ⟨fun _ => ?_, fun hb => absurd hb (by decide)⟩
  walk_at "V"
  refine del_fn w x dx lst hv tk nn k hk hkz u arr n kvs news hx hdx hlst ht hz hkv C' S' (by walk_at "RM") (by walk_at "RM") ?_ ?_
  rotate_left
  ·
    rintro e g₁ news' h₁ t₂ F₁ R hsm ⟨rfl, h1⟩
    refine caught (T' := "ValueError") C' C.X C.T D F₁ R hsm (by k_is) (by decide +kernel) (by decide) ?hexc ?hnt ?hsub rfl (by decide) (by passes_own) fun h'' g'' T'' S₁₁ => ?_
    case hexc => exact isSubtype_of_subB (by decide +kernel)
    case hnt => exact isSubtype_of_subB (by decide +kernel)
    case hsub => exact isSubtype_of_subB (by decide +kernel)
    walk_at "V"
    refine ⟨g'', L', _, _, T'', S₁₁, fun S₁₂ => hret _ _ _ _ S₁₂ ?_⟩
    rw [refused_so]
    exact ⟨by rw [runC_1]; rw [if_pos h1]; exact ⟨_, rfl⟩, by rw [runC_1]; rw [if_pos h1]; exact .nil ht⟩
  rintro _ _ h₁ t₁ S₁ ⟨rfl, h1, arr', n', rfl, hm⟩
  walk_at "V"
  exact ⟨g', L', _, _, KtsTurn.refl, S₁, fun S₂ => hret _ _ _ _ S₂ ⟨by rw [runC_1]; rw [if_neg h1]; rfl, by rw [runC_1]; rw [if_neg h1]; exact .nil hm⟩⟩

theorem lcall_fn2 : ∀ (w : World) (x dx lst : Addr) (hv : Int) (tk : Tok) (nn : Nat) (k : List Nat) (hk : ∀ c ∈ k, 33 ≤ c ∧ c < 128) (hkz : k.length ≤ 1000) (u : Tok) (v : List Nat) (hv33 : ∀ c ∈ v, 33 ≤ c ∧ c < 128) (hvz : v.length ≤ 1000) (uv : Tok)
    (pt : List Nat) (hp33 : ∀ c ∈ pt, 33 ≤ c ∧ c < 128) (hpz : pt.length ≤ 100) (up ud : Tok)
    (arr : Array Value) (n : Nat) (kvs : Tb) (news : List (Addr × Obj))
    (hx : (x, instObj 182 dx) ∈ news) (hdx : (dx, hdD hv tk lst nn) ∈ news) (hlst : ∀ p ∈ news, p.1 ≠ lst) (ht : Tab news arr kvs) (hz : kvs.length ≤ 1000) (hkv : ∀ kv ∈ kvs, kv.1.length ≤ 1000 ∧ ∀ c ∈ kv.1, c < 128),
    FnS w 4 229 [.ref x, .int 2 ud, .str (so k) u, .str (so v) uv, .str (so pt) up] [] ((lst, W.listOf arr n) :: news) (fun r news' => Done news lst (runC 2 k v pt kvs) r news') := by
  intro w x dx lst hv tk nn k hk hkz u v hv33 hvz uv pt hp33 hpz up ud arr n kvs news hx hdx hlst ht hz hkv
  intro p loose mean mg mb dp un gd cn cs L a ccd cl A₀ g m s h t Q E C S hd hu hret
  refine' call_fnS [(Str.ofString "table", Value.ref x), (Str.ofString "deed", Value.int 2 ud), (Str.ofString "name", Value.str (so k) u), (Str.ofString "value", Value.str (so v) uv), (Str.ofString "part", Value.str (so pt) up)] C S ?k6 ?k7 ?k8 ?k9 ?kB ?c2 ?c3 ?c4 ?c5 ?_
  case k6 => k_is
  case k7 => k_is
  case k8 => omega
  case k9 => exact BindsTo.of_eq rfl
  case kB => exact locs rfl
  case c2 => exact rfl
  case c3 => exact rfl
  case c4 => exact rfl
  case c5 => decide
  intro g' L' h' t' FG S' C' hlt D
  refine x_try ?_
  walk_at "V"
  refine ⟨fun hb => absurd hb (by decide), fun _ => ?_⟩
  walk_at "V"
  refine ⟨fun hb => absurd hb (by decide), fun _ => ?_⟩
  walk_at "V"
  refine ⟨fun _ => ?_, fun hb => absurd hb (by decide)⟩
  walk_at "V"
  refine default_fn w x dx lst hv tk nn k hk hkz u v hv33 hvz uv arr n kvs news hx hdx hlst ht hz hkv C' S' (by walk_at "RM") (by walk_at "RM") ?_ ?_
  rotate_left
  ·
    rintro e g₁ news' h₁ t₂ F₁ R hsm ⟨hep, hm⟩
    refine caught (T' := "ValueError") C' C.X C.T D F₁ R hsm (by k_is) (by decide +kernel) (by decide) ?hexc ?hnt ?hsub rfl (by decide) (by passes_own) fun h'' g'' T'' S₁₁ => ?_
    case hexc => exact isSubtype_of_subB (by decide +kernel)
    case hnt => exact isSubtype_of_subB (by decide +kernel)
    case hsub => exact isSubtype_of_subB (by decide +kernel)
    walk_at "V"
    refine ⟨g'', L', _, _, T'', S₁₁, fun S₁₂ => hret _ _ _ _ S₁₂ ?_⟩
    rw [refused_so]
    have e : runC 2 k v pt kvs = (.ref, kvs) := by
      rw [runC_2]
      by_cases h1 : 127 ∈ k
      · rw [if_pos h1]
      · obtain h | ⟨h2, h3⟩ := hep
        · exact absurd h h1
        · rw [if_neg h1, h2]; dsimp only; rw [if_pos h3]
    rw [e]
    exact ⟨⟨_, rfl⟩, hm⟩
  rintro r news' h₁ t₁ S₁ ⟨h1, hm⟩
  walk_at "V"
  refine ⟨g', L', _, _, KtsTurn.refl, S₁, fun S₂ => hret _ _ _ _ S₂ ?_⟩
  rw [runC_2]
  cases hs : sameK k kvs with
  | some kv =>
    rw [hs] at hm
    simp only [if_neg h1]
    exact ⟨hm.1, hm.2⟩
  | none =>
    rw [hs] at hm
    simp only [if_neg h1, if_neg hm.2.1]
    exact ⟨hm.1, hm.2.2⟩

theorem lcall_fn3 : ∀ (w : World) (x dx lst : Addr) (hv : Int) (tk : Tok) (nn : Nat) (k : List Nat) (hk : ∀ c ∈ k, 33 ≤ c ∧ c < 128) (hkz : k.length ≤ 1000) (u : Tok) (v : List Nat) (hv33 : ∀ c ∈ v, 33 ≤ c ∧ c < 128) (hvz : v.length ≤ 1000) (uv : Tok)
    (pt : List Nat) (hp33 : ∀ c ∈ pt, 33 ≤ c ∧ c < 128) (hpz : pt.length ≤ 100) (up ud : Tok)
    (arr : Array Value) (n : Nat) (kvs : Tb) (news : List (Addr × Obj))
    (hx : (x, instObj 182 dx) ∈ news) (hdx : (dx, hdD hv tk lst nn) ∈ news) (hlst : ∀ p ∈ news, p.1 ≠ lst) (ht : Tab news arr kvs) (hz : kvs.length ≤ 1000) (hkv : ∀ kv ∈ kvs, kv.1.length ≤ 1000 ∧ ∀ c ∈ kv.1, c < 128),
    FnS w 4 229 [.ref x, .int 3 ud, .str (so k) u, .str (so v) uv, .str (so pt) up] [] ((lst, W.listOf arr n) :: news) (fun r news' => Done news lst (runC 3 k v pt kvs) r news') := by
  intro w x dx lst hv tk nn k hk hkz u v hv33 hvz uv pt hp33 hpz up ud arr n kvs news hx hdx hlst ht hz hkv
  intro p loose mean mg mb dp un gd cn cs L a ccd cl A₀ g m s h t Q E C S hd hu hret
  refine' call_fnS [(Str.ofString "table", Value.ref x), (Str.ofString "deed", Value.int 3 ud), (Str.ofString "name", Value.str (so k) u), (Str.ofString "value", Value.str (so v) uv), (Str.ofString "part", Value.str (so pt) up)] C S ?k6 ?k7 ?k8 ?k9 ?kB ?c2 ?c3 ?c4 ?c5 ?_
  case k6 => k_is
  case k7 => k_is
  case k8 => omega
  case k9 => exact BindsTo.of_eq rfl
  case kB => exact locs rfl
  case c2 => exact rfl
  case c3 => exact rfl
  case c4 => exact rfl
  case c5 => decide
  intro g' L' h' t' FG S' C' hlt D
  refine x_try ?_
  walk_at "V"
  refine ⟨fun hb => absurd hb (by decide), fun _ => ?_⟩
  walk_at "V"
  refine ⟨fun hb => absurd hb (by decide), fun _ => ?_⟩
  walk_at "V"
  refine ⟨fun hb => absurd hb (by decide), fun _ => ?_⟩
  walk_at "V"
  refine ⟨fun _ => ?_, fun hb => absurd hb (by decide)⟩
  walk_at "V"
  refine add_fn0 w x dx lst hv tk nn k hk hkz u v hv33 hvz uv arr n kvs news hx hdx hlst ht hz C' S' (by walk_at "RM") (by walk_at "RM") ?_ ?_
  rotate_left
  ·
    rintro e g₁ news' h₁ t₂ F₁ R hsm ⟨hep, hm⟩
    refine caught (T' := "ValueError") C' C.X C.T D F₁ R hsm (by k_is) (by decide +kernel) (by decide) ?hexc ?hnt ?hsub rfl (by decide) (by passes_own) fun h'' g'' T'' S₁₁ => ?_
    case hexc => exact isSubtype_of_subB (by decide +kernel)
    case hnt => exact isSubtype_of_subB (by decide +kernel)
    case hsub => exact isSubtype_of_subB (by decide +kernel)
    walk_at "V"
    refine ⟨g'', L', _, _, T'', S₁₁, fun S₁₂ => hret _ _ _ _ S₁₂ ?_⟩
    rw [refused_so]
    exact ⟨by rw [runC_3]; rw [if_pos hep]; exact ⟨_, rfl⟩, by rw [runC_3]; rw [if_pos hep]; exact hm⟩
  rintro _ news' h₁ t₁ S₁ ⟨rfl, h1, h2, hm⟩
  walk_at "V"
  have hn : ¬ (127 ∈ k ∨ 127 ∈ v) := fun h => h.elim h1 h2
  exact ⟨g', L', _, _, KtsTurn.refl, S₁, fun S₂ => hret _ _ _ _ S₂ ⟨by rw [runC_3]; rw [if_neg hn]; rfl, by rw [runC_3]; rw [if_neg hn]; exact hm⟩⟩

theorem lcall_fn4 : ∀ (w : World) (x dx lst : Addr) (hv : Int) (tk : Tok) (nn : Nat) (k : List Nat) (hk : ∀ c ∈ k, 33 ≤ c ∧ c < 128) (hkz : k.length ≤ 1000) (u : Tok) (v : List Nat) (hv33 : ∀ c ∈ v, 33 ≤ c ∧ c < 128) (hvz : v.length ≤ 1000) (uv : Tok)
    (pt : List Nat) (hp33 : ∀ c ∈ pt, 33 ≤ c ∧ c < 128) (hpz : pt.length ≤ 100) (up ud : Tok)
    (arr : Array Value) (n : Nat) (kvs : Tb) (news : List (Addr × Obj))
    (hx : (x, instObj 182 dx) ∈ news) (hdx : (dx, hdD hv tk lst nn) ∈ news) (hlst : ∀ p ∈ news, p.1 ≠ lst) (ht : Tab news arr kvs) (hz : kvs.length ≤ 1000) (hkv : ∀ kv ∈ kvs, kv.1.length ≤ 1000 ∧ ∀ c ∈ kv.1, c < 128),
    FnS w 4 229 [.ref x, .int 4 ud, .str (so k) u, .str (so v) uv, .str (so pt) up] [] ((lst, W.listOf arr n) :: news) (fun r news' => Done news lst (runC 4 k v pt kvs) r news') := by
  intro w x dx lst hv tk nn k hk hkz u v hv33 hvz uv pt hp33 hpz up ud arr n kvs news hx hdx hlst ht hz hkv
  intro p loose mean mg mb dp un gd cn cs L a ccd cl A₀ g m s h t Q E C S hd hu hret
  refine' call_fnS [(Str.ofString "table", Value.ref x), (Str.ofString "deed", Value.int 4 ud), (Str.ofString "name", Value.str (so k) u), (Str.ofString "value", Value.str (so v) uv), (Str.ofString "part", Value.str (so pt) up)] C S ?k6 ?k7 ?k8 ?k9 ?kB ?c2 ?c3 ?c4 ?c5 ?_
  case k6 => k_is
  case k7 => k_is
  case k8 => omega
  case k9 => exact BindsTo.of_eq rfl
  case kB => exact locs rfl
  case c2 => exact rfl
  case c3 => exact rfl
  case c4 => exact rfl
  case c5 => decide
  intro g' L' h' t' FG S' C' hlt D
  refine x_try ?_
  walk_at "V"
  refine ⟨fun hb => absurd hb (by decide), fun _ => ?_⟩
  walk_at "V"
  refine ⟨fun hb => absurd hb (by decide), fun _ => ?_⟩
  walk_at "V"
  refine ⟨fun hb => absurd hb (by decide), fun _ => ?_⟩
  walk_at "V"
  refine ⟨fun hb => absurd hb (by decide), fun _ => ?_⟩
  walk_at "V"
  refine ⟨fun _ => ?_, fun hb => absurd hb (by decide)⟩
  walk_at "V"
  refine add_fn1 w x dx lst hv tk nn k hk hkz u v hv33 hvz uv pt hp33 hpz up arr n kvs news hx hdx hlst ht hz C' S' (by walk_at "RM") (by walk_at "RM") ?_ ?_
  rotate_left
  ·
    rintro e g₁ news' h₁ t₂ F₁ R hsm ⟨hep, hm⟩
    refine caught (T' := "ValueError") C' C.X C.T D F₁ R hsm (by k_is) (by decide +kernel) (by decide) ?hexc ?hnt ?hsub rfl (by decide) (by passes_own) fun h'' g'' T'' S₁₁ => ?_
    case hexc => exact isSubtype_of_subB (by decide +kernel)
    case hnt => exact isSubtype_of_subB (by decide +kernel)
    case hsub => exact isSubtype_of_subB (by decide +kernel)
    walk_at "V"
    refine ⟨g'', L', _, _, T'', S₁₁, fun S₁₂ => hret _ _ _ _ S₁₂ ?_⟩
    rw [refused_so]
    exact ⟨by rw [runC_4]; rw [if_pos hep]; exact ⟨_, rfl⟩, by rw [runC_4]; rw [if_pos hep]; exact hm⟩
  rintro _ news' h₁ t₁ S₁ ⟨rfl, h1, h2, h3, hm⟩
  walk_at "V"
  have hn : ¬ (127 ∈ k ∨ 127 ∈ v ∨ 127 ∈ pt) := fun h => h.elim h1 fun h => h.elim h2 h3
  exact ⟨g', L', _, _, KtsTurn.refl, S₁, fun S₂ => hret _ _ _ _ S₂ ⟨by rw [runC_4]; rw [if_neg hn]; rfl, by rw [runC_4]; rw [if_neg hn]; exact hm⟩⟩

theorem lcall_fn5 : ∀ (w : World) (x dx lst : Addr) (hv : Int) (tk : Tok) (nn : Nat) (k : List Nat) (hk : ∀ c ∈ k, 33 ≤ c ∧ c < 128) (hkz : k.length ≤ 1000) (u : Tok) (v : List Nat) (hv33 : ∀ c ∈ v, 33 ≤ c ∧ c < 128) (hvz : v.length ≤ 1000) (uv : Tok)
    (pt : List Nat) (hp33 : ∀ c ∈ pt, 33 ≤ c ∧ c < 128) (hpz : pt.length ≤ 100) (up ud : Tok)
    (arr : Array Value) (n : Nat) (kvs : Tb) (news : List (Addr × Obj))
    (hx : (x, instObj 182 dx) ∈ news) (hdx : (dx, hdD hv tk lst nn) ∈ news) (hlst : ∀ p ∈ news, p.1 ≠ lst) (ht : Tab news arr kvs) (hz : kvs.length ≤ 1000) (hkv : ∀ kv ∈ kvs, kv.1.length ≤ 1000 ∧ ∀ c ∈ kv.1, c < 128),
    FnS w 4 229 [.ref x, .int 5 ud, .str (so k) u, .str (so v) uv, .str (so pt) up] [] ((lst, W.listOf arr n) :: news) (fun r news' => Done news lst (runC 5 k v pt kvs) r news') := by
  intro w x dx lst hv tk nn k hk hkz u v hv33 hvz uv pt hp33 hpz up ud arr n kvs news hx hdx hlst ht hz hkv
  intro p loose mean mg mb dp un gd cn cs L a ccd cl A₀ g m s h t Q E C S hd hu hret
  refine' call_fnS [(Str.ofString "table", Value.ref x), (Str.ofString "deed", Value.int 5 ud), (Str.ofString "name", Value.str (so k) u), (Str.ofString "value", Value.str (so v) uv), (Str.ofString "part", Value.str (so pt) up)] C S ?k6 ?k7 ?k8 ?k9 ?kB ?c2 ?c3 ?c4 ?c5 ?_
  case k6 => k_is
  case k7 => k_is
  case k8 => omega
  case k9 => exact BindsTo.of_eq rfl
  case kB => exact locs rfl
  case c2 => exact rfl
  case c3 => exact rfl
  case c4 => exact rfl
  case c5 => decide
  intro g' L' h' t' FG S' C' hlt D
  refine x_try ?_
  walk_at "V"
  refine ⟨fun hb => absurd hb (by decide), fun _ => ?_⟩
  walk_at "V"
  refine ⟨fun hb => absurd hb (by decide), fun _ => ?_⟩
  walk_at "V"
  refine ⟨fun hb => absurd hb (by decide), fun _ => ?_⟩
  walk_at "V"
  refine ⟨fun hb => absurd hb (by decide), fun _ => ?_⟩
  walk_at "V"
  refine ⟨fun hb => absurd hb (by decide), fun _ => ?_⟩
  walk_at "V"
  refine all_fn w x dx lst hv tk nn k hk hkz u arr n kvs _ (.tail _ hx) (.tail _ hdx) (.head _) (ht.mono fun p hp => .tail _ hp) hz hkv C' S' (by walk_at "RM") (by walk_at "RM") ?_ ?_
  rotate_left
  ·
    rintro e g₁ news' h₁ t₂ F₁ R hsm ⟨rfl, h1⟩
    refine caught (T' := "ValueError") C' C.X C.T D F₁ R hsm (by k_is) (by decide +kernel) (by decide) ?hexc ?hnt ?hsub rfl (by decide) (by passes_own) fun h'' g'' T'' S₁₁ => ?_
    case hexc => exact isSubtype_of_subB (by decide +kernel)
    case hnt => exact isSubtype_of_subB (by decide +kernel)
    case hsub => exact isSubtype_of_subB (by decide +kernel)
    walk_at "V"
    refine ⟨g'', L', _, _, T'', S₁₁, fun S₁₂ => hret _ _ _ _ S₁₂ ?_⟩
    rw [refused_so]
    exact ⟨by rw [runC_5]; rw [if_pos h1]; exact ⟨_, rfl⟩, by rw [runC_5]; rw [if_pos h1]; exact .nil ht⟩
  rintro _ _ h₁ t₁ S₁ ⟨h1, Da, ys, nD, rfl, rfl, hne, hys⟩
  walk_at "V"
  refine ⟨g', L', _, _, KtsTurn.refl, S₁.sub (news' := (lst, W.listOf arr n) :: ([(Da, W.listOf ys nD)] ++ news)) ?_, fun S₂ => hret _ _ _ _ S₂ ⟨?_, ?_⟩⟩
  · rintro p (_ | ⟨_, _ | ⟨_, hp⟩⟩)
    · exact .tail _ (.head _)
    · exact .head _
    · exact .tail _ (.tail _ hp)
  · rw [runC_5]
    rw [if_neg h1]
    refine ⟨Da, ys, nD, rfl, .tail _ (.head _), ?_⟩
    rw [List.map_map]
    exact hys
  · rw [runC_5]
    rw [if_neg h1]
    refine ⟨arr, n, [(Da, W.listOf ys nD)], rfl, ?_, ht.mono fun p hp => .tail _ hp⟩
    intro p hp
    rw [List.mem_singleton.mp hp]
    exact Ne.symm (hne _ (.head _))
end
noncomputable section
section
variable {w : World} {A : Around} {E : Value → Shared → Prop} {s : Shared} {h : Heap} {t : Nat} {g : Heap} {L : Addr} {m : Str → Option Value} {news : List (Addr × Obj)} {env : Env}
  {cn : Str} {cs : Scope} {a : Addr} {ccd : Value} {cl : List (Str × Addr)} {p : Program} {loose : List Str} {mean : ExcName → Option Value} {mg mb : Str → Option Value} {outer : List Env} {A₀ : Around} {base : Heap}
  {pos : Pos} {Q : Value → Shared → Prop}
theorem o_isnotnn {M : Model} (hq : Q (.bool false) s) : wpAny M A (compareOp .IsNot .none .none) Q E s := wpAny_isNot_self rfl hq
theorem o_isnotty {M : Model} {T : String} (hq : Q (.bool false) s) : wpAny M A (compareOp .IsNot (.type T) (.type T)) Q E s := wpAny_isNot_self rfl hq
theorem c_type_list {l : Addr} {vs : Array Value} {n : Nat} (S : St g L m news h) (hm : (l, W.listOf vs n) ∈ news) (hq : Q (.type "list") (sh s h t)) : wpAny (model (PySem.Challenge.rw_pm0042_01.row.prog) w) A (call (.type "type") [.ref l]) Q E (sh s h t) :=
  call_type_of (s := sh s h t) (Tx := "list") ⟨_, (S.N _ hm).1, rfl⟩ (by decide +kernel) hq
theorem x_assignAttr {M : Model} {o : Expr} {attr : Str} {pos' pos : Pos} {e : Expr} {rest : List Stmt} {Q : Flow → Shared → Prop} (hs : swapsWith e (some (.Attribute o attr pos')) pos.line env = pure false)
    (hq : wpAny M A (eval e env) (fun v s₁ => wpAny M A (eval o env) (fun ov s₂ => wpAny M A (setAttr ov attr v) (fun _ s₃ => wpAny M A (execs rest env) Q E s₃) E s₂) E s₁) E s) :
    wpAny M A (execs (.Assign [.Attribute o attr pos'] e pos :: rest) env) Q E s := wpAny_execs_cons (plainObj_wpAny_Assign_Attribute hq hs)
theorem e_debug {M : Model} (hq : Q (.bool true) s) : wpAny M A (eval (.Name (Str.ofString "__debug__") pos) env) Q E s := by
  show wpAny M A debugConstant Q E s
  exact wpAny_bind (wpAny_rule (wpAny_pure hq))
theorem sa_headers {x dx : Addr} {v : Value} {R : Unit → Shared → Prop} (C : Cx w p loose mean mg mb cs outer A₀ base g) (S : St g L m ((dx, dictOf [] 0) :: news) h) (hx : (x, instObj 182 dx) ∈ news) (hn : ∀ p ∈ news, p.1 ≠ dx)
    (hs : findIn (hd.heap_39 w.params) (.ref 182) "__setattr__" = some (some (.builtin "object.__setattr__"))) (hp : plainOver (hd.heap_39 w.params) 182 = true) (ht : takerIn (hd.heap_39 w.params) 182 (Str.ofString "_headers") = some none) (hh : hasDictIn (hd.heap_39 w.params) 182 = true)
    (hq : ∀ h' t' hv tk n, St g L m ((dx, { cls := .type "dict", data := .dict #[⟨hv, .str (Str.ofString "_headers") tk, v⟩] n }) :: news) h' → R () (sh s h' t')) : wpAny (model (PySem.Challenge.rw_pm0042_01.row.prog) w) A (setAttr (.ref x) (Str.ofString "_headers") v) R E (sh s h t) := by
  refine set_dict (s := sh s h t) (dx := dx) (es := []) (n := 0) S.F C.X S.N (InstAt.of_news S.N (.tail _ hx) (.head _)) rfl hs hp ht hh rfl rfl (.head hn) (show 1 ≤ 1000 by decide) fun h' F' N' => ?_
  exact hq h' _ _ _ _ ⟨F', N'⟩
end
end
local macro_rules | `(tactic| walk_at "W8") => `(tactic| first
  | (with_reducible refine' o_isnotnn ?_)
  | (with_reducible refine' o_isnotty ?_)
  | ((with_reducible refine' x_assignAttr ?hs ?_); (case hs => exact rfl))
  | (with_reducible refine' e_debug ?_)
  | fail)
local macro_rules | `(tactic| walk_at "VJ") => `(tactic| repeat' ((fail_if_success (with_reducible show PySem.wpAny _ _ (PySem.execs (PySem.Stmt.If _ _ _ _ :: _) _) _ _ _)); (first | walk_at "W1" | walk_at "W8") <;> (try (show PySem.wpAny _ _ _ _ _ _))))
local macro_rules | `(tactic| walk_at "VS") => `(tactic| repeat' ((fail_if_success (with_reducible show PySem.wpAny _ _ (PySem.execs (_ :: _) _) _ _ _)); (first | walk_at "W1" | walk_at "W8") <;> (try (show PySem.wpAny _ _ _ _ _ _))))
local macro_rules | `(tactic| walk_at "S1") => `(tactic| ((with_reducible refine' x_assign ?hs ?_); (case hs => exact rfl)); walk_at "VS")
noncomputable section
theorem to_envX {M : Model} {A : Around} {name : Str} {scope : Scope} {L a : Addr} {cd : Value} {body : List Stmt} {Q : Flow → Shared → Prop} {E : Value → Shared → Prop} {s : Shared} {h : Heap} {t : Nat}
    (hq : wpAny M (A.deeper (envX name scope L a cd [])) (execs body (envX name scope L a cd [])) Q E (sh s h t)) : wpAny M (A.deeper (envOf name scope L a cd)) (execs body (envOf name scope L a cd)) Q E (sh s h t) := hq
theorem new_fn : ∀ (w : World) (news : List (Addr × Obj)), ∀ {p : Program} {loose : List Str} {mean : ExcName → Option Value} {mg mb : Str → Option Value} {dp un : Nat} {gd : Option (List Code)} {cn : Str} {cs : Scope} {L a : Addr} {ccd : Value} {cl : List (Str × Addr)} {outer : List Env} {A₀ : Around} {base g : Heap} {m : Str → Option Value} {s : Shared} {h : Heap} {t : Nat} {Q E : Value → Shared → Prop},
    Cx w p loose mean mg mb cs outer A₀ base g → St g L m news h → dp + 2 < recursionLimit → un + 8 < cLine →
    (∀ x dx lst hv tk n nl h' t', St g L m ((x, instObj 182 dx) :: (dx, hdD hv tk lst n) :: (lst, W.listOf #[] nl) :: news) h' → (∀ p ∈ news, p.1 < dx) → dx < x → x < lst → Q (.ref x) (sh s h' t')) →
    wpAny (model PySem.Challenge.rw_pm0042_01.row.prog w) (ktrTop dp un gd cn cs L a ccd cl outer) (call (.ref 182) [] []) Q E (sh s h t) := by
  intro w news p loose mean mg mb dp un gd cn cs L a ccd cl outer A₀ base g m s h t Q E C S hd hu hret
  refine' call_cls (s := sh s h t) (fI := 76) S.F C.X S.N ?hm ?hi ?hf ?_
  case hm => k_is
  case hi => k_is
  case hf => k_is
  intro x dx h₁ F₁ N₁ hlt hdx
  have S₁ : St g L m ((x, instObj 182 dx) :: (dx, dictOf [] 0) :: news) h₁ := ⟨F₁, N₁⟩
  refine' code_def (binds := [(Str.ofString "self", Value.ref x), (Str.ofString "headers", Value.none)]) C.B S₁.F C.X S₁.N C.T rfl rfl C.hk ?k6 ?k7 ?k8 ?k9 ?kB ?_ ?c2 ?c3 ?c4 ?c5
  case k6 => k_is
  case k7 => k_is
  case k8 => show dp + 1 < _; omega
  case k9 => exact binds_K (C.in S₁) rfl (by k_is) rfl rfl rfl
  case kB => exact locs rfl
  case c2 => exact rfl
  case c3 => exact rfl
  case c4 => exact rfl
  case c5 => decide
  intro g' L' h₂ FG F₂ N₂ B₂ X₂ T₂
  have S₂ : St g' L' (lk [(Str.ofString "self", Value.ref x), (Str.ofString "headers", Value.none)]) ((x, instObj 182 dx) :: (dx, dictOf [] 0) :: news) h₂ := ⟨F₂, N₂⟩
  have C' : Cx w p loose mean mg mb cs (envX cn cs L a ccd cl :: outer) ((ktrTop dp un gd cn cs L a ccd cl outer).under (.builtin "type.__call__" ⟨[.ref 182], []⟩)) base g' := ⟨B₂, X₂, T₂, C.hk⟩
  refine to_envX (s := s) (h := h₂) (t := t + 2) ?_
  walk_at "V"
  refine ⟨fun hb => absurd hb Bool.false_ne_true, fun _ => ?_⟩
  walk_at "V"
  rename_i lst h₃ hl₃ S₃ h₄ t₄ S₄
  refine c_type_list S₄ (.head _) ?_
  walk_at "V"
  refine ⟨fun hb => absurd hb Bool.false_ne_true, fun _ => ?_⟩
  walk_at "V"
  refine' sa_headers (news := (lst, W.listOf #[] 0) :: (x, instObj 182 dx) :: news) C' (S₄.sub ?hsub) (.tail _ (.head _)) ?hne ?k1 ?k2 ?k3 ?k4 ?_
  case hsub =>
    rintro p (_ | ⟨_, _ | ⟨_, _ | ⟨_, hp⟩⟩⟩)
    · exact .tail _ (.tail _ (.head _))
    · exact .head _
    · exact .tail _ (.head _)
    · exact .tail _ (.tail _ (.tail _ hp))
  case hne =>
    rintro p (_ | ⟨_, _ | ⟨_, hp⟩⟩)
    · exact Ne.symm (Nat.ne_of_lt (hl₃ _ (.tail _ (.head _))))
    · exact Ne.symm (Nat.ne_of_lt hdx)
    · exact Nat.ne_of_lt (hlt p hp)
  case k1 => k_is
  case k2 => k_is
  case k3 => k_is
  case k4 => k_is
  intro h₅ t₅ hv tk n S₅
  walk_at "V"
  refine ⟨fun _ => ?_, fun hb => absurd hb.symm Bool.false_ne_true⟩
  walk_at "V"
  refine for_list (vs := #[]) rfl rfl (tgt_pair fun i v e => by simp at e) S₅ (fun i m₁ n₁ => n₁ = (dx, hdD hv tk lst n) :: (lst, W.listOf #[] 0) :: (x, instObj 182 dx) :: news) rfl (fun i m₁ n₁ h₁ hJ S => S.isList (n := 0) (by rw [hJ]; exact .tail _ (.head _))) ?turn ?done (by passes_own)
  case turn =>
    rintro i v m₁ n₁ h₆ t₆ I oI hv
    simp at hv
  case done =>
    rintro m₁ n₁ h₆ t₆ rfl S₆
    walk_at "V"
    refine ⟨L', m₁, (x, instObj 182 dx) :: (dx, hdD hv tk lst n) :: (lst, W.listOf #[] 0) :: news, S₆.F, (S₆.sub ?hsub2).N, fun F₃ N₃ => ⟨rfl, hret x dx lst hv tk n 0 h₆ t₆ ⟨F₃, N₃⟩ hlt hdx (hl₃ _ (.head _))⟩⟩
    case hsub2 =>
      rintro p (_ | ⟨_, _ | ⟨_, _ | ⟨_, hp⟩⟩⟩)
      · exact .tail _ (.tail _ (.head _))
      · exact .head _
      · exact .tail _ (.head _)
      · exact .tail _ (.tail _ (.tail _ hp))
end
noncomputable section
theorem ks_sameAll : ∀ xs ys : List Str, PySem.Spec.sameAll (xs.map PyData.str) (ys.map PyData.str) = decide (xs = ys)
  | [], [] => rfl
  | [], _ :: _ => rfl
  | _ :: _, [] => rfl
  | a :: r, b :: t => by
    have ih := ks_sameAll r t
    simp only [List.map_cons, PySem.Spec.sameAll, ih, PySem.Spec.same]
    by_cases h : a = b <;> by_cases h' : r = t <;> simp [h, h']
theorem ks_same (xs ys : List Str) : PySem.Spec.same (.list (xs.map PyData.str)) (.list (ys.map PyData.str)) = decide (xs = ys) := by
  simp only [PySem.Spec.same]; exact ks_sameAll xs ys
theorem ks_canLayAll0 : ∀ ns : List (List Nat), (∀ l ∈ ns, ∀ c ∈ l, c < 0x110000) → PyData.canLayAll0 ((ns.map so).map PyData.str) = true
  | [], _ => rfl
  | a :: r, h => by
    have h1 : PyData.strOk (so a) = true := by
      unfold PyData.strOk
      show a.toArray.all _ = true
      rw [← Array.all_toList, List.all_eq_true]
      intro c hc
      exact decide_eq_true (h a (.head _) c (by simpa using hc))
    simp only [List.map_cons, PyData.canLayAll0, PyData.canLay0, ks_canLayAll0 r (fun l hl => h l (.tail _ hl)), h1, Bool.and_self]
theorem ks_depthAll : ∀ ns : List Str, PyData.depthAll (ns.map PyData.str) = 0
  | [] => rfl
  | _ :: r => by simp [PyData.depthAll, PyData.depth, ks_depthAll r]
theorem ks_shaped (ns : List (List Nat)) (h : ∀ l ∈ ns, ∀ c ∈ l, c < 0x110000) : SeqAt.shaped (.list ((ns.map so).map PyData.str)) = true := by
  simp only [SeqAt.shaped, PyData.canLay0, PyData.depth, ks_canLayAll0 ns h, ks_depthAll]
  decide
theorem ks_carried : ∀ {vs : List Value} {ns : List Str}, StrsAre vs ns → CarriedAll vs (ns.map PyData.str)
  | _, _, .nil => .nil
  | _, _, .cons _ t r => .cons (.str _ t) (ks_carried r)
section
variable {prog : Program} {w : World} {A : Around} {E : Value → Shared → Prop} {s : Shared} {h : Heap} {t : Nat} {g : Heap} {L : Addr} {m : Str → Option Value} {news : List (Addr × Obj)} {env : Env} {pos : Pos} {u v : Tok} {Q : Value → Shared → Prop}
theorem o_eqI {a b : Addr} {xs ys : Array Value} {c d : Nat} {ns ms : List Nat} (S : St g L m news h) (ha : (a, W.listOf xs c) ∈ news) (hb : (b, W.listOf ys d) ∈ news) (hi : IntsAre xs.toList (iz ns)) (hj : IntsAre ys.toList (iz ms)) (hu : A.units + 64 < cLine)
    (hq : Q (.bool (decide (ns = ms))) (sh s h t)) : wpAny (model prog w) A (compareOp .Eq (.ref a) (.ref b)) Q E (sh s h t) := by
  refine ke_eq_ints (s := sh s h t) (S.isList ha) (S.isList hb) hi hj hu ?_
  have e : (iz ns = iz ms) = (ns = ms) := propext ⟨fun h => (List.map_inj_right fun _ _ => Int.ofNat.inj).mp h, fun h => h ▸ rfl⟩
  simpa only [e] using hq
theorem o_neI {a b : Addr} {xs ys : Array Value} {c d : Nat} {ns ms : List Nat} (S : St g L m news h) (ha : (a, W.listOf xs c) ∈ news) (hb : (b, W.listOf ys d) ∈ news) (hi : IntsAre xs.toList (iz ns)) (hj : IntsAre ys.toList (iz ms)) (hu : A.units + 64 < cLine)
    (hq : Q (.bool (!decide (ns = ms))) (sh s h t)) : wpAny (model prog w) A (compareOp .NotEq (.ref a) (.ref b)) Q E (sh s h t) := by
  refine ke_ne_ints (s := sh s h t) (S.isList ha) (S.isList hb) hi hj hu ?_
  have e : (iz ns = iz ms) = (ns = ms) := propext ⟨fun h => (List.map_inj_right fun _ _ => Int.ofNat.inj).mp h, fun h => h ▸ rfl⟩
  simpa only [e] using hq
theorem o_neN {a : Value} {b : Value} {c : Bool} (x : SeqAt.RcNeAt A s a b c) (hq : Q (.bool c) s) : wpAny (model prog w) A (compareOp .NotEq a b) Q E s := x prog w E Q hq
theorem so_inj {a b : List Nat} (h : so a = so b) : a = b := by
  have := congrArg (fun x : Str => x.cps.toList) h
  simpa using this
theorem o_neS {a b : Addr} {xs ys : Array Value} {c d : Nat} {ns ms : List (List Nat)} (S : St g L m news h) (ha : (a, W.listOf xs c) ∈ news) (hb : (b, W.listOf ys d) ∈ news) (hi : StrsAre xs.toList (ns.map so)) (hj : StrsAre ys.toList (ms.map so)) (hu : A.units + 64 < cLine)
    (hn : ∀ l ∈ ns, ∀ c ∈ l, c < 0x110000) (hm : ∀ l ∈ ms, ∀ c ∈ l, c < 0x110000) (hq : Q (.bool (!decide (ns = ms))) (sh s h t)) : wpAny (model prog w) A (compareOp .NotEq (.ref a) (.ref b)) Q E (sh s h t) := by
  refine ne_dataH_same (s := sh s h t) (reads_newData (S.isList ha) (ks_carried hi)) (reads_newData (S.isList hb) (ks_carried hj)) (ks_shaped _ hn) (ks_shaped _ hm) hu (SeqAt.noMix_of_shape (.list .str) rfl _ _ (list_map_has fun _ => rfl) (list_map_has fun _ => rfl)) ?_
  rw [ks_same]
  have e : (ns.map so = ms.map so) = (ns = ms) := propext ⟨fun h => (List.map_inj_right fun _ _ => so_inj).mp h, fun h => h ▸ rfl⟩
  simpa only [e] using hq
theorem o_inI {k : Nat} {l : Addr} {vs : Array Value} {c : Nat} {ns : List Nat} (S : St g L m news h) (hl : (l, W.listOf vs c) ∈ news) (hi : IntsAre vs.toList (iz ns)) (hq : Q (.bool (decide (k ∈ ns))) (sh s h t)) :
    wpAny (model prog w) A (compareOp .In (.int (k : Nat) u) (.ref l)) Q E (sh s h t) := by
  refine in_list_ints (s := sh s h t) (S.isList hl) hi ?_
  have e : (iz ns).any (· == (k : Int)) = decide (k ∈ ns) := by
    rw [Bool.eq_iff_iff, List.any_eq_true, decide_eq_true_iff]
    constructor
    · rintro ⟨x, hx, e⟩
      obtain ⟨n, hn, rfl⟩ := List.mem_map.mp hx
      have : (n : Int) = k := eq_of_beq e
      exact (by omega : n = k) ▸ hn
    · intro hk
      exact ⟨_, List.mem_map.mpr ⟨k, hk, rfl⟩, beq_self_eq_true _⟩
  rw [e]; exact hq
end
end
noncomputable section
theorem ints_of : ∀ (vs : List Value) (ns : List Int), vs.length = ns.length → (∀ (j : Nat) (v : Value) (k : Int), vs[j]? = some v → ns[j]? = some k → ∃ u, v = .int k u) → IntsAre vs ns
  | [], [], _, _ => .nil
  | [], _ :: _, h, _ => by simp at h
  | _ :: _, [], h, _ => by simp at h
  | v :: r, k :: t, h, f => by
    obtain ⟨u, rfl⟩ := f 0 v k rfl rfl
    exact .cons _ _ (ints_of r t (by simpa using h) fun j v' k' h1 h2 => f (j + 1) v' k' (by simpa using h1) (by simpa using h2))
section
variable {prog : Program} {w : World} {A : Around} {E : Value → Shared → Prop} {s : Shared} {h : Heap} {t : Nat} {g : Heap} {L : Addr} {m : Str → Option Value} {news : List (Addr × Obj)} {env : Env}
/-- the octets of a bytes value, one by one, as they are -/
theorem comp_bytes {x : Str} {elt : Expr} {scope : Scope} {cl' : List (Str × Addr)} {b : Array UInt8} {tb : Tok} {Q : Value → Shared → Prop} (hh : A.handled = none)
    (S : St g L m news h) (hsz : b.size ≤ sizeLine)
    (elts : ∀ (C : Addr) (v : Value) (s' : Shared) (h₁ : Heap) (t₁ : Nat) (mC : Str → Option Value) (E' : Value → Shared → Prop), h₁.Ns C mC → mC x = some v → wpAny (model prog w) A (eval elt (compEnvC scope cl' C env)) (fun y s₄ => y = v ∧ Keeps (sh s' h₁ t₁) s₄) E' (sh s' h₁ t₁))
    (hq : ∀ D h' t' ys n, St g L m ((D, W.listOf ys n) :: news) h' → (∀ p ∈ news, p.1 ≠ D) → IntsAre ys.toList (KBw.bInts b) → Q (.ref D) (sh s h' t')) :
    wpAny (model prog w) A (pyIter (.bytes b tb)) (CompAt prog w A env scope cl' x [] elt (fun _ => true) (fun v y => y = v) Q) E (sh s h t) := by
  refine KBw.pyIter_bytes (s := sh s h t) ?_
  have hIL : h.objs.size ≠ L := Ne.symm (Nat.ne_of_lt S.Llt)
  have hIg : g.get? h.objs.size = none := S.freshAt (Nat.le_refl _)
  have hIn : ∀ p ∈ news, p.1 ≠ h.objs.size := fun p hp => Nat.ne_of_lt (S.lt p hp)
  have S₀ : St g L m news (h.push { cls := .type "bytes_iterator", data := .fields #[.bytes b tb, .int 0 0] }) := (S.push (o := { cls := .type "bytes_iterator", data := .fields #[.bytes b tb, .int 0 0] }) rfl).sub fun p hp => .tail _ hp
  refine ⟨h.objs.size, [h.objs.size], [h.objs.size], b.size, _, _, rfl, KBw.walks hh h.objs.size b tb, hsz, ⟨_, Heap.get?_push_size _ rfl, rfl, rfl⟩, ?_,
    { tests := fun C i v s₃ m₃ E' hC hP hn hm hk _ => wpAny_tests_nil ⟨rfl, s₃.heap, s₃.toks, rfl, fun _ _ e => e⟩,
      elt := fun C i v s₃ m₃ E' hC hP hp hn hm hk _ => elts C v s₃ s₃.heap s₃.toks m₃ E' hn hm }, ?_⟩
  · intro c hc
    rw [List.mem_singleton.mp hc]
    show h.objs.size < (h.push _).objs.size
    rw [Heap.size_push]
    exact Nat.lt_succ_self _
  · intro D h' tk ys us hD hL' hpl hlen hP hF hk
    obtain ⟨n, hDn⟩ := hpl
    rw [filter_tt] at hF
    have hyu := paired_eq hF
    have hkk : ∀ b' o, b' ≠ h.objs.size → (h.push { cls := .type "bytes_iterator", data := .fields #[.bytes b tb, .int 0 0] }).get? b' = some o → h'.get? b' = some o := fun b' o hb e => hk b' o (by simpa using hb) e
    have hold : ∀ b' o, h.get? b' = some o → h'.get? b' = some o := fun b' o e => hkk b' o (Nat.ne_of_lt (Heap.lt_size e)) (Heap.get?_push_of_some _ e)
    have hDh : h.get? D = none := by
      cases e : h.get? D with
      | none => rfl
      | some o => have := Heap.get?_push_of_some { cls := .type "bytes_iterator", data := .fields #[.bytes b tb, .int 0 0] } e; exact absurd (hD.symm.trans this) (by simp)
    refine hq D h' tk ys n ⟨(S.keeps hold).F, fun p hp => ?_⟩ (fun p hp e => ?_) ?_
    · rcases List.mem_cons.mp hp with rfl | hp
      · refine ⟨hDn, fun e => ?_, ?_⟩
        · obtain ⟨oL, _, _, hoL, _⟩ := S.F.ns
          rw [← e, hDh] at hoL; cases hoL
        · cases e : g.get? D with
          | none => rfl
          | some o => have := S.F.keep _ _ e; rw [hDh] at this; cases this
      · exact (S.keeps hold).N p hp
    · have := (S.N p hp).1; rw [e, hDh] at this; cases this
    · rw [hyu]
      refine ints_of us _ (by rw [hlen, KBw.ints_length]) fun j v k hv hk => ?_
      obtain ⟨c, u, hc, rfl⟩ := hP j v hv
      rw [KBw.ints_get hc] at hk
      exact ⟨u, by rw [Option.some.inj hk]⟩
end
end
noncomputable section
section
variable {prog : Program} {w : World} {A : Around} {E : Value → Shared → Prop} {s : Shared} {h : Heap} {t : Nat} {g : Heap} {L : Addr} {m : Str → Option Value} {news : List (Addr × Obj)} {env : Env} {Q : Value → Shared → Prop}
theorem i_slice_up {value slice : Expr} {l : Addr} {items : Array Value} {c : Int} {kk : Nat} {pc p : Pos} (S : St g L m news h) (hl : h.IsList l items) (hsz : items.size ≤ sizeLine)
    (hs : ∀ a : Addr, subscripted slice false (.ref l) (.ref a) = operate [.ref a, .ref l] (getItem (.ref l) (.ref a))) (ht : ∀ r, letTemporaryGo value (.ref l) r = pure ())
    (hq : ∀ D h' t', (∀ p ∈ news, p.1 < D) → St g L m ((D, W.listOf (slicePick items none (some c) none) 0) :: news) h' → Q (.ref D) (sh s h' t')) :
    wpAny (model prog w) A (eval (.Slice none (some (.Constant (.int c) kk pc)) none p) env) (fun i s₂ => wpAny (model prog w) A (subscriptTail value slice (.ref l) i) Q E s₂) E (sh s h t) := by
  rw [arm_eval_Slice]
  refine wpAny_bind (wpAny_of_eq (a := .none) rfl (wpAny_bind (wpAny_holding ?_)))
  refine wpAny_Constant_int (s := sh s h t) (pos := pc) (k := kk) ?_
  refine wpAny_bind (wpAny_holding (wpAny_of_eq (a := .none) rfl ?_))
  simp only [newFields]
  refine wpAny_newObj_type ?_ (by size_fits)
  refine slice_list (s := sh s h (t + 1)) (vl := .none) (lo := none) (hi := some c) S.F S.N hl .none (.int c t) (fun h' F' N' => ?_) (hs _) ht hsz
  exact hq _ h' _ (fun p hp => Nat.lt_succ_of_lt (S.lt p hp)) ⟨F', N'⟩
end
end
noncomputable section
/-! the plain law: no program in sight -/
theorem oct_text (n : Nat) : oct n = wordL (n / 64) ++ [n % 64] := rfl
theorem octs_text (ns : List Nat) : octs ns = textL ns := rfl
theorem textL_append (a b : List Nat) : textL (a ++ b) = textL a ++ textL b := by simp [textL]
theorem textL_one (n : Nat) : textL [n] = wordL (n / 64) ++ [n % 64] := by simp [textL]
theorem textL_cons (n : Nat) (r : List Nat) : textL (n :: r) = wordL (n / 64) ++ [n % 64] ++ textL r := by simp [textL]
theorem wordL_zero : wordL 0 = [] := by simp [wordL, figs_zero]
theorem joinL_end : ∀ ls : List (List Nat), joinL [13, 10] (ls ++ [[], []]) = (ls.map (· ++ [13, 10])).flatten ++ [13, 10]
  | [] => rfl
  | [a] => by simp [joinL]
  | a :: b :: r => by
    have ih := joinL_end (b :: r)
    show a ++ [13, 10] ++ joinL [13, 10] ((b :: r) ++ [[], []]) = _
    rw [ih]
    simp
/-- a row of the law: a name's number and the numbers behind it -/
structure LRow where
  name : Nat
  nums : List Nat
def rowNums (r : LRow) : List Nat := [r.name * 64 + 58, 32] ++ r.nums ++ [10]
def headL (rows : List LRow) : List Nat := (rows.map rowNums).flatten
def valOf (r : LRow) : List Nat := (textL r.nums).dropLast
def kvOf (r : LRow) : List Nat × List Nat := (wordL r.name, valOf r)
/-- its text ends with the sign 13 -/
def Ends13 (r : LRow) : Prop := textL r.nums = valOf r ++ [13]
theorem row_text (r : LRow) (h : Ends13 r) : textL (rowNums r) = rowT (kvOf r) ++ [13, 10] := by
  unfold rowNums
  rw [textL_append, textL_append, h, textL_cons, textL_one, textL_one]
  have e1 : (r.name * 64 + 58) / 64 = r.name := by omega
  have e2 : (r.name * 64 + 58) % 64 = 58 := by omega
  rw [e1, e2]
  show wordL r.name ++ [58] ++ (wordL 0 ++ [32]) ++ (valOf r ++ [13]) ++ (wordL 0 ++ [10]) = _
  rw [wordL_zero]
  simp [rowT, kvOf]
theorem head_text : ∀ rows : List LRow, (∀ r ∈ rows, Ends13 r) → textL (headL rows) = ((rows.map kvOf).map (fun kv => rowT kv ++ [13, 10])).flatten
  | [], _ => rfl
  | r :: rs, h => by
    show textL (rowNums r ++ headL rs) = _
    rw [textL_append, row_text r (h r (.head _)), head_text rs fun x hx => h x (.tail _ hx)]
    rfl
/-- the octets of the table are just those that the numbers spell -/
theorem table_text (rows : List LRow) (h : ∀ r ∈ rows, Ends13 r) : strL (rows.map kvOf) = octs (headL rows ++ [13, 10]) := by
  rw [octs_text, textL_append, head_text rows h, strL, joinL_end]
  have e : textL [13, 10] = [13, 10] := by
    rw [textL_cons, textL_one]
    show wordL 0 ++ [13] ++ (wordL 0 ++ [10]) = _
    rw [wordL_zero]; rfl
  rw [e]
  simp [List.map_map, Function.comp_def]
/-! kinds: two names are one just if they have the same figures, capitals told less 32 -/
theorem low_inj_kind : ∀ a b : Fin 64, (low (64 + a.val) = low (64 + b.val)) ↔ (kindOfFig a.val = kindOfFig b.val) := by decide +kernel
theorem low_kind : ∀ (a b : List Nat), (∀ d ∈ a, d < 64) → (∀ d ∈ b, d < 64) → (((a.map (64 + ·)).map low = (b.map (64 + ·)).map low) ↔ (a.map kindOfFig = b.map kindOfFig))
  | [], [], _, _ => by simp
  | [], _ :: _, _, _ => by simp
  | _ :: _, [], _, _ => by simp
  | a :: r, b :: t, ha, hb => by
    have ih := low_kind r t (fun d hd => ha d (.tail _ hd)) (fun d hd => hb d (.tail _ hd))
    have h1 := low_inj_kind ⟨a, ha a (.head _)⟩ ⟨b, hb b (.head _)⟩
    simp only [List.map_cons, List.cons.injEq]
    rw [ih]
    exact and_congr_left fun _ => h1
theorem kind_word (n k : Nat) : ((wordL n).map low = (wordL k).map low) ↔ kindL n = kindL k := low_kind _ _ (figs_lt n) (figs_lt k)
theorem kind_beq (n k : Nat) : ((wordL n).map low == (wordL k).map low) = (kindL n == kindL k) := by
  rw [Bool.eq_iff_iff, beq_iff_eq, beq_iff_eq]; exact kind_word n k
/-- a figure 63 is the sign 127 -/
theorem fig_127 (n : Nat) : 127 ∈ wordL n ↔ 63 ∈ figs n := by
  unfold wordL
  constructor
  · intro h
    obtain ⟨d, hd, e⟩ := List.mem_map.mp h
    exact (by omega : d = 63) ▸ hd
  · intro h
    exact List.mem_map.mpr ⟨63, h, rfl⟩
theorem kind_63 (n : Nat) : 63 ∈ kindL n ↔ 63 ∈ figs n := by
  unfold kindL
  constructor
  · intro h
    obtain ⟨d, hd, e⟩ := List.mem_map.mp h
    unfold kindOfFig at e
    split at e
    · omega
    · exact e ▸ hd
  · intro h
    exact List.mem_map.mpr ⟨63, h, by decide⟩
theorem word_rng (n : Nat) : ∀ c ∈ wordL n, 33 ≤ c ∧ c < 128 := by
  intro c hc
  obtain ⟨d, hd, rfl⟩ := List.mem_map.mp hc
  have := figs_lt n d hd
  omega
end
noncomputable section
theorem figs_snoc (t f : Nat) (hf : f < 64) (h : 0 < t * 64 + f) : figs (t * 64 + f) = figs t ++ [f] := by
  rw [figs_pos h, show (t * 64 + f) / 64 = t by omega, show (t * 64 + f) % 64 = f by omega]
def dblF (l : List Nat) : List Nat := l.flatMap fun f => if f = 28 then [28, 28] else [f]
theorem told_figs (n : Nat) : figs (toldOf n) = dblF (figs n) := by
  induction n using Nat.strongRecOn with
  | ind n ih =>
    by_cases h0 : n = 0
    · subst h0; simp [toldOf, figs_zero, dblF]
    · have hp : 0 < n := by omega
      have e : toldOf n = toldStep (toldOf (n / 64)) (n % 64) := by
        unfold toldOf
        rw [figs_pos hp, List.foldl_append]; rfl
      have ih' := ih (n / 64) (by omega)
      have hlt : n % 64 < 64 := Nat.mod_lt _ (by decide)
      have hd : dblF (figs n) = dblF (figs (n / 64)) ++ (if n % 64 = 28 then [28, 28] else [n % 64]) := by
        rw [figs_pos hp]; simp [dblF]
      have hnz : n / 64 ≠ 0 → 0 < toldOf (n / 64) := by
        intro hq
        rcases Nat.eq_zero_or_pos (toldOf (n / 64)) with h | h
        · rw [h, figs_zero] at ih'
          have hf : figs (n / 64) ≠ [] := by rw [figs_pos (by omega)]; simp
          have : dblF (figs (n / 64)) ≠ [] := by
            unfold dblF
            cases hfg : figs (n / 64) with
            | nil => exact absurd hfg hf
            | cons a r =>
              rw [List.flatMap_cons]
              split <;> simp
          exact absurd ih'.symm this
        · exact h
      rw [e, hd, ← ih']
      unfold toldStep
      by_cases h28 : n % 64 = 28
      · rw [if_pos h28, if_pos h28, figs_snoc _ 28 (by decide) (by omega), h28, figs_snoc _ 28 (by decide) (by omega)]
        simp
      · rw [if_neg h28, if_neg h28, figs_snoc _ _ hlt ?_]
        by_cases hq : n / 64 = 0
        · omega
        · have := hnz hq; omega
theorem wordL_snoc (t f : Nat) (hf : f < 64) (h : 0 < t * 64 + f) : wordL (t * 64 + f) = wordL t ++ [64 + f] := by
  unfold wordL
  rw [figs_snoc t f hf h, List.map_append]; rfl
theorem told_word (n : Nat) : wordL (toldOf n) = subC 92 [92, 92] (wordL n) := by
  unfold wordL
  rw [told_figs]
  generalize figs n = l
  induction l with
  | nil => rfl
  | cons f r ih =>
    unfold dblF subC at ih ⊢
    rw [List.flatMap_cons, List.map_append, ih, List.map_cons, List.flatMap_cons]
    by_cases h : f = 28
    · subst h; rfl
    · rw [if_neg h, if_neg (by omega)]; rfl
theorem subC_rep (m : Nat) : subC 34 [92, 34] (List.replicate m 34) = (List.replicate m [92, 34]).flatten := by
  induction m with
  | zero => rfl
  | succ m ih =>
    rw [List.replicate_succ, List.replicate_succ, List.flatten_cons, ← ih]
    rfl
theorem sub34_free (l : List Nat) (h : ∀ c ∈ l, 64 ≤ c) : subC 34 [92, 34] l = l := subC_free 34 _ l fun hc => by have := h 34 hc; omega
theorem word_ge (n : Nat) : ∀ c ∈ wordL n, 64 ≤ c := by
  intro c hc
  obtain ⟨d, hd, rfl⟩ := List.mem_map.mp hc
  omega
theorem esc_word (part marks : Nat) : subC 34 [92, 34] (subC 92 [92, 92] (wordL part ++ List.replicate marks 34)) = wordL (toldOf part) ++ (List.replicate marks [92, 34]).flatten := by
  have h92 : subC 92 [92, 92] (List.replicate marks 34) = List.replicate marks 34 := subC_free 92 _ _ fun h => by
    have := List.eq_of_mem_replicate h
    omega
  rw [subC_append, h92, subC_append, subC_rep, ← told_word, sub34_free _ (word_ge _)]
theorem text_2797 : textL [2797] = [107, 45] := by
  rw [textL_one]
  have : wordL (2797 / 64) = [107] := by
    show wordL 43 = _
    rw [show (43 : Nat) = 0 * 64 + 43 from rfl, wordL_snoc 0 43 (by decide) (by decide), wordL_zero]; rfl
  rw [this]; rfl
theorem text_lo (c : Nat) (h : c < 64) : textL [c] = [c] := by
  rw [textL_one, show c / 64 = 0 by omega, wordL_zero, show c % 64 = c by omega]; rfl
theorem text_1826 : textL [1826] = [92, 34] := by
  rw [textL_one]
  have : wordL (1826 / 64) = [92] := by
    show wordL 28 = _
    rw [show (28 : Nat) = 0 * 64 + 28 from rfl, wordL_snoc 0 28 (by decide) (by decide), wordL_zero]; rfl
  rw [this]; rfl
theorem text_rep (m : Nat) : textL (List.replicate m 1826) = (List.replicate m [92, 34]).flatten := by
  induction m with
  | zero => rfl
  | succ m ih =>
    rw [List.replicate_succ, List.replicate_succ, List.flatten_cons, ← ih, show (1826 :: List.replicate m 1826) = [1826] ++ List.replicate m 1826 from rfl, textL_append, text_1826]
theorem word_nil (n : Nat) : wordL n = [] ↔ n = 0 := by
  constructor
  · intro h
    rcases Nat.eq_zero_or_pos n with h0 | h0
    · exact h0
    · unfold wordL at h
      rw [figs_pos h0] at h
      simp at h
  · rintro rfl; exact wordL_zero
/-- the numbers of a parameter spell just what _formatparam lays -/
theorem part_text (part marks : Nat) : textL (partL part marks) = fmtL [107, 45] (wordL part ++ List.replicate marks 34) := by
  unfold partL fmtL
  by_cases hm : marks > 0
  · rw [if_pos hm, if_neg (by cases marks with
      | zero => omega
      | succ k => simp [List.replicate_succ])]
    rw [esc_word]
    obtain ⟨k, rfl⟩ : ∃ k, marks = k + 1 := ⟨marks - 1, by omega⟩
    rw [textL_append, textL_append, show k + 1 - 1 = k from rfl, text_rep, text_lo 34 (by decide),
      show [2797, 61, 34, (toldOf part * 64 + 28) * 64 + 34] = [2797] ++ [61] ++ [34] ++ [(toldOf part * 64 + 28) * 64 + 34] from rfl, textL_append, textL_append, textL_append, text_2797, text_lo 61 (by decide), text_lo 34 (by decide), textL_one,
      show ((toldOf part * 64 + 28) * 64 + 34) / 64 = toldOf part * 64 + 28 by omega, show ((toldOf part * 64 + 28) * 64 + 34) % 64 = 34 by omega, wordL_snoc _ 28 (by decide) (by omega), List.replicate_succ, List.flatten_cons]
    simp
  · have hm0 : marks = 0 := by omega
    subst hm0
    rw [if_neg (by omega)]
    simp only [List.replicate_zero, List.append_nil]
    have h34 : subC 34 [92, 34] (subC 92 [92, 92] (wordL part)) = wordL (toldOf part) := by
      have := esc_word part 0
      simpa using this
    by_cases hp : part > 0
    · rw [if_pos hp, if_neg (fun h => by have := (word_nil part).mp h; omega), h34,
        show [2797, 61, 34, toldOf part * 64 + 34] = [2797] ++ [61] ++ [34] ++ [toldOf part * 64 + 34] from rfl, textL_append, textL_append, textL_append, text_2797, text_lo 61 (by decide), text_lo 34 (by decide), textL_one,
        show (toldOf part * 64 + 34) / 64 = toldOf part by omega, show (toldOf part * 64 + 34) % 64 = 34 by omega]
      simp
    · have hp0 : part = 0 := by omega
      subst hp0
      rw [if_neg (by omega), if_pos wordL_zero, text_2797]
/-- a row with a parameter -/
theorem row4_text (value part marks : Nat) : textL ([value * 64 + 59, 32] ++ partL part marks ++ [13]) = (wordL value ++ tailL (some (wordL part ++ List.replicate marks 34))) ++ [13] := by
  rw [textL_append, textL_append, part_text, text_lo 13 (by decide), textL_cons, text_lo 32 (by decide), show (value * 64 + 59) / 64 = value by omega, show (value * 64 + 59) % 64 = 59 by omega]
  simp [tailL]
theorem row1_text (value : Nat) : textL [value * 64 + 13] = wordL value ++ [13] := by
  rw [textL_one, show (value * 64 + 13) / 64 = value by omega, show (value * 64 + 13) % 64 = 13 by omega]
/-- a value's only figure that can be 63 is its last -/
theorem value_63 (value : Nat) (h : value < 64 * 63) : 63 ∈ figs value ↔ value % 64 = 63 := by
  rcases Nat.eq_zero_or_pos value with h0 | h0
  · subst h0; simp [figs_zero]
  · rw [figs_pos h0]
    constructor
    · intro hm
      rcases List.mem_append.mp hm with hm | hm
      · have hq : value / 64 < 63 := by omega
        rcases Nat.eq_zero_or_pos (value / 64) with h1 | h1
        · rw [h1, figs_zero] at hm; cases hm
        · rw [figs_pos h1, show value / 64 / 64 = 0 by omega, figs_zero, List.nil_append] at hm
          have := List.mem_singleton.mp hm
          omega
      · exact (List.mem_singleton.mp hm).symm
    · intro e
      exact List.mem_append_right _ (by rw [e]; exact .head _)
end
noncomputable section
def freshL (deed name value part marks : Nat) : LRow := ⟨name, if deed = 4 then [value * 64 + 59, 32] ++ partL part marks ++ [13] else [value * 64 + 13]⟩
def alikeL (rows : List LRow) (name : Nat) : List LRow := rows.filter fun r => kindL r.name == kindL name
def othersL (rows : List LRow) (name : Nat) : List LRow := rows.filter fun r => kindL r.name != kindL name
/-- what the law foretells of a call -/
def stepL (rows : List LRow) (deed name value part marks : Nat) : Ans × List LRow :=
  if 63 ∈ kindL name then (.ref, rows)
  else if deed = 1 then (.non, othersL rows name)
  else if deed = 2 ∧ alikeL rows name ≠ [] then (.txt (valOf ((alikeL rows name).headD ⟨0, []⟩)), rows)
  else if value % 64 = 63 ∨ (deed = 4 ∧ 63 ∈ figs part) then (.ref, if deed = 0 then othersL rows name else rows)
  else if deed = 0 then (.non, othersL rows name ++ [freshL deed name value part marks])
  else (if deed = 2 then .txt (wordL value) else .non, rows ++ [freshL deed name value part marks])
theorem drop_map (rows : List LRow) (name : Nat) : dropK (wordL name) (rows.map kvOf) = (othersL rows name).map kvOf := by
  unfold dropK othersL
  rw [List.filter_map]
  congr 1
  refine List.filter_congr fun r _ => ?_
  show ((wordL r.name).map low != (wordL name).map low) = _
  unfold bne
  rw [kind_beq]
theorem same_map (rows : List LRow) (name : Nat) : sameK (wordL name) (rows.map kvOf) = (rows.find? fun r => kindL r.name == kindL name).map kvOf := by
  unfold sameK
  rw [List.find?_map]
  congr 1
  congr 1
  funext r
  exact kind_beq _ _
theorem find_head (rows : List LRow) (name : Nat) : (rows.find? fun r => kindL r.name == kindL name) = (alikeL rows name).head? := by
  unfold alikeL
  rw [List.head?_filter]
theorem all_map (rows : List LRow) (name : Nat) : ((rows.map kvOf).filter fun kv => kv.1.map low == (wordL name).map low).map (·.2) = (alikeL rows name).map valOf := by
  unfold alikeL
  rw [List.filter_map, List.map_map]
  have : (rows.filter ((fun kv => List.map low kv.1 == List.map low (wordL name)) ∘ kvOf)) = rows.filter fun r => kindL r.name == kindL name := List.filter_congr fun r _ => kind_beq _ _
  rw [this]
  rfl
theorem mem_part (part marks : Nat) : 127 ∈ wordL part ++ List.replicate marks 34 ↔ 63 ∈ figs part := by
  rw [List.mem_append, fig_127]
  constructor
  · rintro (h | h)
    · exact h
    · have := List.eq_of_mem_replicate h; omega
  · exact .inl
theorem val_fresh (deed name value part marks : Nat) : Ends13 (freshL deed name value part marks) ∧ kvOf (freshL deed name value part marks) = (wordL name, if deed = 4 then wordL value ++ tailL (some (wordL part ++ List.replicate marks 34)) else wordL value) := by
  unfold Ends13 kvOf valOf freshL
  by_cases h : deed = 4
  · simp only [if_pos h, row4_text, List.dropLast_concat]; exact ⟨trivial, trivial⟩
  · simp only [if_neg h, row1_text, List.dropLast_concat]; exact ⟨trivial, trivial⟩
/-- the table's deeds are just those foretold -/
theorem run_step (rows : List LRow) (deed name value part marks : Nat) (hd : deed ≤ 4) (hv : value < 64 * 63) :
    runC deed (wordL name) (wordL value) (wordL part ++ List.replicate marks 34) (rows.map kvOf) = ((stepL rows deed name value part marks).1, (stepL rows deed name value part marks).2.map kvOf) := by
  have hk : 127 ∈ wordL name ↔ 63 ∈ kindL name := (fig_127 name).trans (kind_63 name).symm
  have hw : 127 ∈ wordL value ↔ value % 64 = 63 := (fig_127 value).trans (value_63 value hv)
  have hp := mem_part part marks
  obtain ⟨_, hf⟩ := val_fresh deed name value part marks
  unfold stepL
  rcases (by omega : deed = 0 ∨ deed = 1 ∨ deed = 2 ∨ deed = 3 ∨ deed = 4) with rfl | rfl | rfl | rfl | rfl
  · rw [runC_0]
    by_cases h1 : 63 ∈ kindL name
    · rw [if_pos (hk.mpr h1), if_pos h1]
    · rw [if_neg (fun h => h1 (hk.mp h)), if_neg h1, if_neg (show ¬ (0 : Nat) = 1 by decide), if_neg (show ¬ ((0 : Nat) = 2 ∧ alikeL rows name ≠ []) by simp)]
      by_cases h2 : value % 64 = 63
      · rw [if_pos (hw.mpr h2), if_pos (.inl h2), drop_map]; rfl
      · rw [if_neg (fun h => h2 (hw.mp h)), if_neg (show ¬ (value % 64 = 63 ∨ ((0 : Nat) = 4 ∧ 63 ∈ figs part)) by simp [h2]), if_pos rfl, drop_map, List.map_append, List.map_singleton, hf]; rfl
  · rw [runC_1]
    by_cases h1 : 63 ∈ kindL name
    · rw [if_pos (hk.mpr h1), if_pos h1]
    · rw [if_neg (fun h => h1 (hk.mp h)), if_neg h1, if_pos rfl, drop_map]
  · rw [runC_2, same_map, find_head]
    by_cases h1 : 63 ∈ kindL name
    · rw [if_pos (hk.mpr h1), if_pos h1]
    · rw [if_neg (fun h => h1 (hk.mp h)), if_neg h1, if_neg (show ¬ (2 : Nat) = 1 by decide)]
      cases ha : alikeL rows name with
      | cons r rs =>
        rw [if_pos (show (2 : Nat) = 2 ∧ (r :: rs) ≠ [] from ⟨rfl, by simp⟩)]
        rfl
      | nil =>
        rw [if_neg (show ¬ ((2 : Nat) = 2 ∧ ([] : List LRow) ≠ []) by simp)]
        show (if 127 ∈ wordL value then _ else _) = _
        by_cases h2 : value % 64 = 63
        · rw [if_pos (hw.mpr h2), if_pos (.inl h2), if_neg (show ¬ (2 : Nat) = 0 by decide)]
        · rw [if_neg (fun h => h2 (hw.mp h)), if_neg (show ¬ (value % 64 = 63 ∨ ((2 : Nat) = 4 ∧ 63 ∈ figs part)) by simp [h2]), if_neg (show ¬ (2 : Nat) = 0 by decide), if_pos rfl, List.map_append, List.map_singleton, hf]; rfl
  · rw [runC_3]
    by_cases h1 : 63 ∈ kindL name
    · rw [if_pos (.inl (hk.mpr h1)), if_pos h1]
    · rw [if_neg h1, if_neg (show ¬ (3 : Nat) = 1 by decide), if_neg (show ¬ ((3 : Nat) = 2 ∧ alikeL rows name ≠ []) by simp)]
      by_cases h2 : value % 64 = 63
      · rw [if_pos (.inr (hw.mpr h2)), if_pos (.inl h2), if_neg (show ¬ (3 : Nat) = 0 by decide)]
      · rw [if_neg (fun h : 127 ∈ wordL name ∨ 127 ∈ wordL value => h.elim (fun h => h1 (hk.mp h)) fun h => h2 (hw.mp h)), if_neg (show ¬ (value % 64 = 63 ∨ ((3 : Nat) = 4 ∧ 63 ∈ figs part)) by simp [h2]), if_neg (show ¬ (3 : Nat) = 0 by decide), if_neg (show ¬ (3 : Nat) = 2 by decide), List.map_append, List.map_singleton, hf]; rfl
  · rw [runC_4]
    by_cases h1 : 63 ∈ kindL name
    · rw [if_pos (.inl (hk.mpr h1)), if_pos h1]
    · rw [if_neg h1, if_neg (show ¬ (4 : Nat) = 1 by decide), if_neg (show ¬ ((4 : Nat) = 2 ∧ alikeL rows name ≠ []) by simp)]
      by_cases h2 : value % 64 = 63 ∨ ((4 : Nat) = 4 ∧ 63 ∈ figs part)
      · rw [if_pos (.inr (h2.imp hw.mpr fun h => hp.mpr h.2)), if_pos h2, if_neg (show ¬ (4 : Nat) = 0 by decide)]
      · rw [if_neg (fun h : 127 ∈ wordL name ∨ 127 ∈ wordL value ∨ 127 ∈ wordL part ++ List.replicate marks 34 => h.elim (fun h => h1 (hk.mp h)) fun h => h2 (h.imp hw.mp fun h => ⟨rfl, hp.mp h⟩)), if_neg h2, if_neg (show ¬ (4 : Nat) = 0 by decide), if_neg (show ¬ (4 : Nat) = 2 by decide), List.map_append, List.map_singleton, hf]; rfl
theorem run_all (rows : List LRow) (name : Nat) (v pt : List Nat) : runC 5 (wordL name) v pt (rows.map kvOf) = (if 63 ∈ kindL name then .ref else .lst ((alikeL rows name).map valOf), rows.map kvOf) := by
  have hk : 127 ∈ wordL name ↔ 63 ∈ kindL name := (fig_127 name).trans (kind_63 name).symm
  rw [runC_5]
  by_cases h1 : 63 ∈ kindL name
  · rw [if_pos (hk.mpr h1), if_pos h1]
  · rw [if_neg (fun h => h1 (hk.mp h)), if_neg h1, all_map]
end
noncomputable section
section
variable {prog : Program} {w : World} {A : Around} {E : Value → Shared → Prop} {s : Shared} {h : Heap} {t : Nat} {g : Heap} {L : Addr} {m : Str → Option Value} {news : List (Addr × Obj)} {env : Env} {pos : Pos} {u v : Tok} {Q : Value → Shared → Prop}
/-- an if whose two ways meet again -/
theorem x_ifJ {M : Model} {test : Expr} {body orelse rest : List Stmt} {Q : Flow → Shared → Prop} (P : (Str → Option Value) → List (Addr × Obj) → Prop)
    (hq : wpAny M A (isTrue test env (eval test env)) (fun b s₂ =>
      (b = true → wpAny M A (execs body env) (fun f s₃ => f = .next ∧ ∃ h' t' m' n', s₃ = sh s h' t' ∧ St g L m' n' h' ∧ P m' n') E s₂) ∧
      (b = false → wpAny M A (execs orelse env) (fun f s₃ => f = .next ∧ ∃ h' t' m' n', s₃ = sh s h' t' ∧ St g L m' n' h' ∧ P m' n') E s₂)) E (sh s h t))
    (hr : ∀ h' t' m' n', St g L m' n' h' → P m' n' → wpAny M A (execs rest env) Q E (sh s h' t')) :
    wpAny M A (execs (.If test body orelse pos :: rest) env) Q E (sh s h t) := by
  have both : ∀ (b : List Stmt) (s₂ : Shared), wpAny M A (execs b env) (fun f s₃ => f = .next ∧ ∃ h' t' m' n', s₃ = sh s h' t' ∧ St g L m' n' h' ∧ P m' n') E s₂ → wpAny M A (execs (b ++ rest) env) Q E s₂ := fun b s₂ hb => by
    rw [execs_append]
    refine wpAny_bind (wpAny_mono hb (fun f s₃ q => ?_) fun _ _ x => x)
    obtain ⟨rfl, h', t', m', n', rfl, S', hP⟩ := q
    exact hr h' t' m' n' S' hP
  exact x_if (wpAny_mono hq (fun b s₂ q => ⟨fun hb => both _ _ (q.1 hb), fun hb => both _ _ (q.2 hb)⟩) fun _ _ x => x)
/-- marks behind a word -/
theorem o_mulS {l : List Nat} {n : Nat} (hl : l.length ≤ 10) (hn : n ≤ 10) (hq : ∀ u t', Q (.str (so (List.replicate n l).flatten) u) (sh s h t')) : wpAny (model prog w) A (binaryOp .Mult (.str (so l) u) (.int (n : Nat) v)) Q E (sh s h t) := by
  have hz : Builtin.Str.tooLong ((so l).length * n) = false := by
    rw [so_len]
    unfold Builtin.Str.tooLong
    have : l.length * n ≤ 10 * 10 := Nat.mul_le_mul hl hn
    rw [sizeLine_eq]
    exact decide_eq_false (by omega)
  refine P.mul_str (s := sh s h t) (by
      rw [decide_eq_false (by omega), decide_eq_false (by omega)]; rfl) (fun h1 _ => ?_) (fun _ _ => by rw [Int.toNat_natCast]; exact hz) ?_
  · rw [so_len]
    intro hc
    have h2 : (10 : Int) ≤ (2 ^ 63 - 1) / (n : Int) := by
      refine Int.le_ediv_of_mul_le (by omega) ?_
      omega
    omega
  · by_cases h0 : (n : Int) < 1
    · rw [if_pos h0]
      have : n = 0 := by omega
      subst this
      exact ⟨by decide, by have h := hq t (t + 1); simp only [List.replicate_zero, List.flatten_nil] at h; exact h⟩
    · rw [if_neg h0]
      by_cases h1 : ((n : Int) == 1 || (so l).length == 0) = true
      · rw [if_pos h1]
        rcases Bool.or_eq_true_iff.mp h1 with h | h
        · have : n = 1 := by have := eq_of_beq h; omega
          subst this
          show Q _ _
          simpa using hq u t
        · have : l = [] := by
            have := eq_of_beq h
            rw [so_len] at this
            exact List.length_eq_zero_iff.mp this
          subst this
          show Q _ _
          have e : (List.replicate n ([] : List Nat)).flatten = [] := by simp
          rw [e] at hq
          exact hq u t
      · rw [if_neg h1, Int.toNat_natCast]
        have e : (⟨(List.replicate n (so l).cps).foldl (· ++ ·) #[]⟩ : Str) = so (List.replicate n l).flatten := by
          have key : ∀ (k : Nat) (a : Array Nat), (List.replicate k l.toArray).foldl (· ++ ·) a = a ++ (List.replicate k l).flatten.toArray := by
            intro k
            induction k with
            | zero => intro a; simp
            | succ k ih =>
              intro a
              rw [List.replicate_succ, List.foldl_cons, ih, List.replicate_succ, List.flatten_cons]
              simp
          have := key n #[]
          show (⟨(List.replicate n l.toArray).foldl (· ++ ·) #[]⟩ : Str) = _
          rw [this]; simp
        rw [e]
        refine ⟨?_, hq _ _⟩
        rw [so_len, sizeLine_eq]
        have : ((List.replicate n l).flatten).length ≤ 100 := by
          rw [List.length_flatten, List.map_replicate, List.sum_replicate_nat]
          exact Nat.mul_le_mul hn hl
        omega
end
end
noncomputable section
/-! rows of the law in the ledger -/
open Classical in
def genP {α : Type} (R : Value → α → Prop) (P : α → Bool) (v : Value) : Bool := decide (∃ a, R v a ∧ P a = true)
open Classical in
theorem genP_eq {α : Type} {R : Value → α → Prop} (hu : ∀ v a b, R v a → R v b → a = b) {P : α → Bool} {v : Value} {a : α} (x : R v a) : genP R P v = P a := by
  unfold genP
  by_cases hp : P a = true
  · rw [hp]; exact decide_eq_true ⟨a, x, hp⟩
  · rw [Bool.eq_false_iff.mpr hp]
    refine decide_eq_false ?_
    rintro ⟨b, y, hb⟩
    rw [hu v b a y x] at hb
    exact hp hb
theorem gen_filter {α : Type} {R : Value → α → Prop} (hu : ∀ v a b, R v a → R v b → a = b) (P : α → Bool) {l : List Value} {as : List α} (x : Paired R l as) : Paired R (l.filter (genP R P)) (as.filter P) := by
  induction x with
  | nil => exact .nil
  | @cons a b l₁ l₂ h _ ih =>
    rw [List.filter_cons, List.filter_cons, genP_eq hu h]
    cases P b with
    | true => exact .cons h ih
    | false => exact ih
theorem ints_inj : ∀ {vs : List Value} {ns ms : List Int}, IntsAre vs ns → IntsAre vs ms → ns = ms
  | _, _, _, .nil, .nil => rfl
  | _, _, _, .cons _ _ h, .cons _ _ h' => by rw [ints_inj h h']
theorem iz_inj {a b : List Nat} (h : iz a = iz b) : a = b := (List.map_inj_right fun _ _ => Int.ofNat.inj).mp h
theorem listOf_inj {a b : Array Value} {c d : Nat} (h : W.listOf a c = W.listOf b d) : a = b := by
  simp only [W.listOf, Obj.mk.injEq, Data.seq.injEq] at h
  exact h.2.2.1.1
theorem IL.uniq {g h : Heap} {L : Addr} {m : Str → Option Value} {news : List (Addr × Obj)} (S : St g L m news h) {l : Addr} {a b : List Nat} (x : IL news l a) (y : IL news l b) : a = b := by
  obtain ⟨vs, c, hm, hi⟩ := x
  obtain ⟨vs', c', hm', hi'⟩ := y
  have e := (S.N _ hm).1.symm.trans (S.N _ hm').1
  have e := listOf_inj (Option.some.inj e)
  subst e
  exact iz_inj (ints_inj hi hi')
def LRowAt (news : List (Addr × Obj)) (v : Value) (r : LRow) : Prop := ∃ t u lk ln c, v = .ref t ∧ (t, W.listOf #[.int (r.name : Nat) u, .ref lk, .ref ln] c) ∈ news ∧ IL news lk (kindL r.name) ∧ IL news ln r.nums
theorem LRowAt.mono {news news' : List (Addr × Obj)} {v : Value} {r : LRow} (x : LRowAt news v r) (hs : ∀ p ∈ news, p ∈ news') : LRowAt news' v r :=
  let ⟨t, u, lk, ln, c, e, hm, h1, h2⟩ := x
  ⟨t, u, lk, ln, c, e, hs _ hm, h1.mono hs, h2.mono hs⟩
theorem LRowAt.uniq {g h : Heap} {L : Addr} {m : Str → Option Value} {news : List (Addr × Obj)} (S : St g L m news h) : ∀ v a b, LRowAt news v a → LRowAt news v b → a = b := by
  rintro v ⟨an, as⟩ ⟨bn, bs⟩ ⟨t, u, lk, ln, c, rfl, hm, _, h2⟩ ⟨t', u', lk', ln', c', e, hm', _, h2'⟩
  cases e
  have e := (S.N _ hm).1.symm.trans (S.N _ hm').1
  have e := listOf_inj (Option.some.inj e)
  simp at e
  obtain ⟨⟨e1, _⟩, rfl, rfl⟩ := e
  have e2 := IL.uniq S h2 h2'
  dsimp only at e1 e2
  subst e2
  have : an = bn := by omega
  subst this
  rfl
def LTab (news : List (Addr × Obj)) (arr : Array Value) (rows : List LRow) : Prop := Paired (LRowAt news) arr.toList rows
theorem LTab.mono {news news' : List (Addr × Obj)} {arr : Array Value} {rows : List LRow} (x : LTab news arr rows) (hs : ∀ p ∈ news, p ∈ news') : LTab news' arr rows := Paired.monoF x fun _ _ r => LRowAt.mono r hs
theorem LTab.size {news : List (Addr × Obj)} {arr : Array Value} {rows : List LRow} (x : LTab news arr rows) : arr.size = rows.length := by
  have := Paired.len x
  simpa using this
theorem LTab.at_ {news : List (Addr × Obj)} {arr : Array Value} {rows : List LRow} (x : LTab news arr rows) {i : Nat} {v : Value} (h : arr[i]? = some v) : ∃ r, rows[i]? = some r ∧ LRowAt news v r := Paired.at_ x i v (by simpa using h)
theorem paired_app {α β : Type} {F : α → β → Prop} {a c : List α} {b d : List β} (x : Paired F a b) (y : Paired F c d) : Paired F (a ++ c) (b ++ d) := by
  induction x with
  | nil => exact y
  | cons h _ ih => exact .cons h ih
/-- the numbers of the law's turn: as the script's int tells them -/
def deedN (x : Int) : Nat := (x.fmod 5).toNat
def modeN (x : Int) : Nat := ((x.fdiv 5).fmod 5).toNat
theorem deedN_lt (x : Int) : deedN x < 5 := by
  unfold deedN
  have h1 := Int.fmod_nonneg_of_pos x (b := 5) (by decide)
  have h2 := Int.fmod_lt_of_pos x (b := 5) (by decide)
  omega
theorem deedN_eq (x : Int) : x.fmod 5 = (deedN x : Nat) := by
  unfold deedN
  have h1 := Int.fmod_nonneg_of_pos x (b := 5) (by decide)
  omega
theorem modeN_lt (x : Int) : modeN x < 5 := deedN_lt _
theorem modeN_eq (x : Int) : (x.fdiv 5).fmod 5 = (modeN x : Nat) := deedN_eq _
theorem fmodNN (x : Int) (k : Nat) (hk : 0 < k) : x.fmod k = ((x.fmod k).toNat : Nat) ∧ (x.fmod k).toNat < k := by
  have h1 := Int.fmod_nonneg_of_pos x (b := k) (by omega)
  have h2 := Int.fmod_lt_of_pos x (b := k) (by omega)
  omega
end
noncomputable section
section
variable {prog : Program} {w : World} {A : Around} {E : Value → Shared → Prop} {s : Shared} {h : Heap} {t : Nat} {g : Heap} {L : Addr} {m : Str → Option Value} {news : List (Addr × Obj)} {env : Env} {pos : Pos} {u v : Tok} {Q : Value → Shared → Prop}
/-- a list against an empty one -/
theorem o_neNil {a b : Addr} {xs : Array Value} {c d : Nat} (S : St g L m news h) (ha : (a, W.listOf xs c) ∈ news) (hb : (b, W.listOf #[] d) ∈ news) (hu : A.units < cLine)
    (hq : Q (.bool (!decide (xs.size = 0))) (sh s h t)) : wpAny (model prog w) A (compareOp .NotEq (.ref a) (.ref b)) Q E (sh s h t) := by
  by_cases h0 : xs.size = 0
  · refine o_neN (SeqAt.RcNeAt.lists (s := sh s h t) (e := fun _ => true) (S.isList ha) (S.isList hb) (by simpa using h0) hu (fun j h1 h2 => by omega)) ?_
    rw [h0] at hq ⊢
    exact hq
  · refine o_neN (SeqAt.RcNeAt.lists_lengths (s := sh s h t) (S.isList ha) (S.isList hb) (by simpa using h0) hu) ?_
    rw [decide_eq_false h0] at hq
    exact hq
end
end
noncomputable section
open Builtin Builtin.Str in
theorem strIdx (n : Nat) : strSliceIndices none (some (-1)) 1 n = List.range (n - 1) := by
  unfold strSliceIndices
  have e : ∀ b : Nat, sliceRange (0 : Int) (b : Int) 1 = List.range b := fun b => by
    have := sliceRange_one 0 b
    simpa using this
  simp only [show (1 : Int) > 0 by decide, if_true]
  rw [if_pos (by decide : (-1 : Int) < 0), show Max.max (0 : Int) (Min.min (-1 + (n : Int)) n) = ((n - 1 : Nat) : Int) by omega]
  exact e _
theorem pick_dropLast (l : List Nat) : (List.range (l.length - 1)).filterMap (l.toArray[·]?) = l.dropLast := by
  rw [List.dropLast_eq_take]
  generalize hk : l.length - 1 = k
  have hk' : k ≤ l.length := by omega
  clear hk
  induction k with
  | zero => simp
  | succ k ih =>
    rw [List.range_succ, List.filterMap_append, ih (by omega), List.take_add_one]
    have : l[k]? = some l[k] := List.getElem?_eq_getElem (by omega)
    simp [this]
theorem slice_last (l : List Nat) : Txt.slice (so l) none (some (-1)) = so l.dropLast := by
  unfold Txt.slice
  rw [so_len, strIdx]
  by_cases h : ((1 : Int) == 1 && ((List.range (l.length - 1)).length == l.length)) = true
  · rw [if_pos h]
    have h2 := (Bool.and_eq_true_iff.mp h).2
    have h3 := eq_of_beq h2
    rw [List.length_range] at h3
    have : l = [] := by cases l with
      | nil => rfl
      | cons a r => simp at h3
    subst this; rfl
  · rw [if_neg h]
    show (⟨((List.range (l.length - 1)).filterMap (l.toArray[·]?)).toArray⟩ : Str) = _
    rw [pick_dropLast]
end
noncomputable section
theorem upd_upd (m : Str → Option Value) (x : Str) (v v' : Value) : upd (upd m x v) x v' = upd m x v' := by
  funext y
  unfold upd
  by_cases h : y = x
  · rw [if_pos h, if_pos h]
  · rw [if_neg h, if_neg h, if_neg h]
theorem xor_and_or (n : Nat) : ∀ x y : Nat, x < 2 ^ n → (x ^^^ y) + (x &&& y) = x ||| y := by
  induction n with
  | zero =>
    intro x y hx
    have : x = 0 := by omega
    subst this; simp
  | succ n ih =>
    intro x y hx
    have h := ih (x / 2) (y / 2) (by omega)
    have p := Nat.mod_two_eq_zero_or_one x
    have q := Nat.mod_two_eq_zero_or_one y
    have hm : (x ^^^ y) % 2 + (x &&& y) % 2 = (x ||| y) % 2 := by
      have f1 : (x ^^^ y) % 2 = x % 2 ^^^ y % 2 := Nat.xor_mod_two_pow (n := 1)
      have f2 : (x &&& y) % 2 = x % 2 &&& y % 2 := Nat.and_mod_two_pow (n := 1)
      have f3 : (x ||| y) % 2 = x % 2 ||| y % 2 := Nat.or_mod_two_pow (n := 1)
      rw [f1, f2, f3]
      rcases p with p | p <;> rcases q with q | q <;> rw [p, q] <;> rfl
    have hd : (x ^^^ y) / 2 + (x &&& y) / 2 = (x ||| y) / 2 := by
      rw [Nat.xor_div_two, Nat.and_div_two, Nat.or_div_two]
      exact h
    clear h p q hx ih
    generalize x ^^^ y = a at hm hd ⊢
    generalize x &&& y = b at hm hd ⊢
    generalize x ||| y = c at hm hd ⊢
    rw [← Nat.div_add_mod a 2, ← Nat.div_add_mod b 2, ← Nat.div_add_mod c 2, ← hm, ← hd, Nat.mul_add]
    simp only [Nat.add_assoc, Nat.add_left_comm, Nat.add_comm]
theorem xor_nat (x y : Nat) : Builtin.bitXor (x : Int) (y : Int) = ((x ^^^ y : Nat) : Int) := by
  rw [bitXor_and]
  have h1 := or_nat x y
  have h2 : Builtin.bitAnd (x : Int) (y : Int) = ((x &&& y : Nat) : Int) := by
    unfold Builtin.bitAnd
    rw [decide_eq_true (by omega), decide_eq_true (by omega)]
    show (((x : Int).toNat &&& (y : Int).toNat : Nat) : Int) = _
    rw [Int.toNat_natCast, Int.toNat_natCast]
  have h3 : Builtin.bitXor (x : Int) (y : Int) = Builtin.bitOr (x : Int) (y : Int) - Builtin.bitAnd (x : Int) (y : Int) := rfl
  have h4 := xor_and_or x x y Nat.lt_two_pow_self
  rw [bitXor_and, h1, h2] at h3
  rw [h2]
  omega
theorem xor_lt {a b : Nat} (ha : a < 4096) (hb : b < 4096) : a ^^^ b < 4096 := Nat.xor_lt_two_pow (n := 12) ha hb
section
variable {prog : Program} {w : World} {A : Around} {E : Value → Shared → Prop} {s : Shared} {h : Heap} {t : Nat} {g : Heap} {L : Addr} {m : Str → Option Value} {news : List (Addr × Obj)} {env : Env} {pos : Pos} {u v : Tok} {Q : Value → Shared → Prop}
theorem i_listT {value slice : Expr} {l : Addr} {vs : Array Value} {n k : Nat} {x : Value} (S : St g L m news h) (ht : (l, W.listOf vs n) ∈ news) (hx : vs[k]? = some x) (hk : k < 2 ^ 40)
    (hs : subscripted slice false (.ref l) (.int (k : Nat) u) = operate [.ref l, .int (k : Nat) u] (getItem (.ref l) (.int (k : Nat) u))) (hq : Q x (sh s h t)) :
    wpAny (model prog w) A (subscriptTail value slice (.ref l) (.int (k : Nat) u)) Q E (sh s h t) :=
  kba_turn (value' := PySem.Expr.Name (PySem.Str.ofString "_") ⟨0, 0, 0, 0⟩) (fun _ => rfl) (i_list S ht hx hk hs (fun _ => rfl) hq)
abbrev slO (i : Int) (u : Tok) : Obj := { cls := .type "slice", data := .fields #[.none, .int i u, .none] }
theorem e_sliceU {e : Expr} {p : Pos} (hq : wpAny (model prog w) A (eval e env) (fun v s₁ => ∃ i u h₁ t₁, v = .int i u ∧ s₁ = sh s h₁ t₁ ∧ St g L m news h₁ ∧ ∀ sl h', (∀ p ∈ news, p.1 < sl) → St g L m ((sl, slO i u) :: news) h' → Q (.ref sl) (sh s h' t₁)) E (sh s h t)) :
    wpAny (model prog w) A (eval (.Slice none (some e) none p) env) Q E (sh s h t) := by
  rw [arm_eval_Slice]
  refine wpAny_bind (wpAny_of_eq (a := .none) rfl (wpAny_bind (wpAny_holding ?_)))
  refine wpAny_mono (show wpAny (model prog w) A (eval e env) _ E (sh s h t) from hq) (fun v s₁ q => ?_) fun _ _ x => x
  obtain ⟨i, u, h₁, t₁, rfl, rfl, S₁, k⟩ := q
  refine wpAny_bind (wpAny_holding (wpAny_of_eq (a := .none) rfl ?_))
  simp only [newFields]
  refine wpAny_newObj_type ?_ (by size_fits)
  exact k _ _ S₁.lt (S₁.push (o := slO i u) rfl)
theorem i_sliceS {value slice : Expr} {l : List Nat} {sl : Addr} {us : Tok} (S : St g L m news h) (hsl : (sl, slO (-1) us) ∈ news) (hz : l.length ≤ 1000000)
    (hs : subscripted slice false (.str (so l) u) (.ref sl) = operate [.ref sl, .str (so l) u] (getItem (.str (so l) u) (.ref sl))) (hq : ∀ u t', Q (.str (so l.dropLast) u) (sh s h t')) :
    wpAny (model prog w) A (subscriptTail value slice (.str (so l) u) (.ref sl)) Q E (sh s h t) := by
  refine kba_turn (value' := PySem.Expr.Name (PySem.Str.ofString "_") ⟨0, 0, 0, 0⟩) (fun _ => rfl) ?_
  refine tail_of_ItemOn ⟨"str", _, F.slot_str_getitem.lookup, typeIs_str _ _ _, wpAny_getItem_str_slice (l := none) (u := some (-1, us)) (st := none) ⟨_, (S.N _ hsl).1, rfl, rfl⟩ rfl
    (PySem.post_val_or_str ⟨?_, fun t' k => ?_⟩)⟩ hs (fun _ => rfl)
  · refine Nat.le_trans (Txt.slice_le (so l) _ _) ?_
    rw [so_len, sizeLine_eq]; omega
  · show Q (.str (Txt.slice (so l) none (some (-1))) t') _
    rw [slice_last]
    exact hq _ _
end
end
noncomputable section
/-! addresses that the ledger keeps apart -/
def Off (sp : List Addr) (a : Addr) : Prop := ∀ c ∈ sp, a ≠ c
def Has (sp : List Addr) (news : List (Addr × Obj)) : Prop := ∀ c ∈ sp, ∃ o, (c, o) ∈ news
def Sep (sp : List Addr) (news : List (Addr × Obj)) : Prop := ∀ p ∈ news, Off sp p.1
theorem Has.mono {sp : List Addr} {news news' : List (Addr × Obj)} (x : Has sp news) (hs : ∀ p ∈ news, p ∈ news') : Has sp news' := fun c hc => let ⟨o, h⟩ := x c hc; ⟨o, hs _ h⟩
theorem Has.cons {sp : List Addr} {news : List (Addr × Obj)} {p : Addr × Obj} (x : Has sp news) : Has sp (p :: news) := x.mono fun _ h => .tail _ h
theorem Has.app {sp : List Addr} {news tl : List (Addr × Obj)} (x : Has sp news) : Has sp (tl ++ news) := x.mono fun _ h => List.mem_append_right _ h
theorem Has.nil {news : List (Addr × Obj)} : Has [] news := fun _ h => by cases h
theorem Has.one {c : Addr} {o : Obj} {sp : List Addr} {news : List (Addr × Obj)} (h : (c, o) ∈ news) (x : Has sp news) : Has (c :: sp) news := by
  intro d hd
  rcases List.mem_cons.mp hd with rfl | hd
  · exact ⟨o, h⟩
  · exact x d hd
theorem off_lt {sp : List Addr} {news : List (Addr × Obj)} {a : Addr} (x : Has sp news) (hl : ∀ p ∈ news, p.1 < a) : Off sp a := fun c hc => let ⟨o, h⟩ := x c hc; Ne.symm (Nat.ne_of_lt (hl _ h))
theorem off_ne {sp : List Addr} {news : List (Addr × Obj)} {a : Addr} (x : Has sp news) (hl : ∀ p ∈ news, p.1 ≠ a) : Off sp a := fun c hc => let ⟨o, h⟩ := x c hc; Ne.symm (hl _ h)
theorem off_fn {sp : List Addr} {news : List (Addr × Obj)} {a : Addr} {o : Obj} (x : Has sp news) (hl : ∀ q ∈ news, ∀ p ∈ [(a, o)], q.1 ≠ p.1) : Off sp a := fun c hc => let ⟨o, h⟩ := x c hc; Ne.symm (hl _ h _ (.head _))
theorem Sep.cons {sp : List Addr} {news : List (Addr × Obj)} {a : Addr} {o : Obj} (x : Off sp a) (y : Sep sp news) : Sep sp ((a, o) :: news) := by
  intro p hp
  rcases List.mem_cons.mp hp with rfl | hp
  · exact x
  · exact y p hp
theorem Sep.nil {sp : List Addr} : Sep sp [] := fun _ h => by cases h
theorem Sep.ne {sp : List Addr} {news : List (Addr × Obj)} {c : Addr} (x : Sep sp news) (hc : c ∈ sp) : ∀ p ∈ news, p.1 ≠ c := fun p hp => x p hp c hc
theorem Sep.sub {sp : List Addr} {news news' : List (Addr × Obj)} (x : Sep sp news) (hs : ∀ p ∈ news', p ∈ news) : Sep sp news' := fun p hp => x p (hs p hp)
end
noncomputable section
section
variable {prog : Program} {w : World} {A : Around} {E : Value → Shared → Prop} {s : Shared} {h : Heap} {t : Nat} {g : Heap} {L : Addr} {m : Str → Option Value} {news : List (Addr × Obj)} {env : Env}
def CompSt (prog : Program) (w : World) (A : Around) (env : Env) (scope : Scope) (cl : List (Str × Addr)) (x : Str) (ifs : List Expr) (elt : Expr) (p : Value → Bool) (F : Value → Value → Prop) (y : Str) (K : Shared → Prop) (it : Value) (s₂ : Shared) : Prop :=
  ∃ I fp wr n P St m, it = .ref I ∧ Walks prog w A I fp wr n P St ∧ n ≤ sizeLine ∧ St 0 s₂.heap ∧ (∀ b ∈ fp, b < s₂.heap.objs.size) ∧ env.locals ∉ wr ∧ s₂.heap.Ns env.locals m ∧ QuietOnC prog w A env scope cl x ifs elt wr P p F s₂ ∧
    (∀ D h' tk ys (vs : List Value), s₂.heap.get? D = none → h'.IsList D ys → h'.PlainList D ys → vs.length = n → (∀ j v, vs[j]? = some v → P j v) → Paired F (vs.filter p) ys.toList →
      h'.Ns env.locals (fun z => if z = y then some (.ref D) else m z) → (∀ b o, b ≠ env.locals → b ∉ wr → s₂.heap.get? b = some o → h'.get? b = some o) → K { s₂ with heap := h', toks := tk })
theorem x_compS {elt iter : Expr} {x y : Str} {px py : Pos} {ifs : List Expr} {scope : Scope} {cl : List (Str × Addr)} {pos spos : Pos} {rest : List Stmt} {Q : Flow → Shared → Prop} (p : Value → Bool) (F : Value → Value → Prop)
    (hsw : swapsWith (.ListComp elt [⟨.Name x px, iter, ifs, 0⟩] scope pos) (some (.Name y py)) spos.line env = pure true)
    (hclos : closureFor scope env = pure cl) (hcell : ∀ z ∈ scope.names, z.2 ≠ .cell) (hkind : scope.kind = .function)
    (hnames : ∀ z ∈ scope.names, z.2 = .local → scope.names.lookup z.1 = some .local) (hx : scope.names.lookup x = some .local)
    (hy : env.kindOf y = some .local) (hp : (env.scope.kind == .class || (env.scope.kind == .module && env.locals != env.globals)) = false) (hs : ∀ x, foldedSetIterable iter env x = pure x)
    (hq : wpAny (model prog w) A (eval iter env) (fun xv s₁ => wpAny (model prog w) A (pyIter xv) (CompSt prog w A env scope cl x ifs elt p F y (fun s' => wpAny (model prog w) A (execs rest env) Q E s')) E s₁) E s) :
    wpAny (model prog w) A (execs (.Assign [.Name y py] (.ListComp elt [⟨.Name x px, iter, ifs, 0⟩] scope pos) spos :: rest) env) Q E s :=
  x_assignComp p F hsw hclos hcell hkind hnames hx hy hp hs hq
theorem comp_end {ob : Obj} {D : Addr} {h' : Heap} {ys : Array Value} {y : Str} (S : St g L m news h) (hD : (h.push ob).get? D = none) (hpl : h'.PlainList D ys) (hns : h'.Ns L (fun z => if z = y then some (.ref D) else m z))
    (hk : ∀ b o, b ≠ L → b ∉ [h.objs.size] → (h.push ob).get? b = some o → h'.get? b = some o) : ∃ n, St g L (upd m y (.ref D)) ((D, W.listOf ys n) :: news) h' ∧ ∀ p ∈ news, p.1 ≠ D := by
  obtain ⟨n, hDn⟩ := hpl
  have hold : ∀ b o, b ≠ L → h.get? b = some o → h'.get? b = some o := fun b o hb e => hk b o hb (by simpa using Nat.ne_of_lt (Heap.lt_size e)) (Heap.get?_push_of_some _ e)
  have hDh : h.get? D = none := by
    cases e : h.get? D with
    | none => rfl
    | some o => have := Heap.get?_push_of_some ob e; exact absurd (hD.symm.trans this) (by simp)
  refine ⟨n, ⟨⟨hns, fun b o e => hold b o (Nat.ne_of_lt (Nat.lt_of_lt_of_le (Heap.lt_size e) S.F.above)) (S.F.keep b o e), S.F.above⟩, fun p hp => ?_⟩, fun p hp e => ?_⟩
  · rcases List.mem_cons.mp hp with rfl | hp
    · refine ⟨hDn, fun e => ?_, ?_⟩
      · obtain ⟨oL, _, _, hoL, _⟩ := S.F.ns
        rw [← e, hDh] at hoL; cases hoL
      · cases e : g.get? D with
        | none => rfl
        | some o => have := S.F.keep _ _ e; rw [hDh] at this; cases this
    · obtain ⟨h1, h2, h3⟩ := S.N p hp
      exact ⟨hold _ _ h2 h1, h2, h3⟩
  · have := (S.N p hp).1; rw [e, hDh] at this; cases this
theorem comp_listS {elt : Expr} {x y : Str} {ifs : List Expr} {scope : Scope} {cl' : List (Str × Addr)} {l : Addr} {vs : Array Value} {p : Value → Bool} {F : Value → Value → Prop} {K : Shared → Prop} (hh : A.handled = none) (hL : env.locals = L)
    (S : St g L m news h) (hl : h.IsList l vs) (hsz : vs.size ≤ sizeLine)
    (tests : ∀ (C : Addr) (i : Nat) (v : Value) (s' : Shared) (h₁ : Heap) (t₁ : Nat) (mC : Str → Option Value) (E' : Value → Shared → Prop), vs[i]? = some v → St g L m news h₁ → h₁.Ns C mC → mC x = some v → wpAny (model prog w) A (testsOf ifs (compEnvC scope cl' C env)) (fun ok s₄ => ok = p v ∧ Keeps (sh s' h₁ t₁) s₄) E' (sh s' h₁ t₁))
    (elts : ∀ (C : Addr) (i : Nat) (v : Value) (s' : Shared) (h₁ : Heap) (t₁ : Nat) (mC : Str → Option Value) (E' : Value → Shared → Prop), vs[i]? = some v → p v = true → St g L m news h₁ → h₁.Ns C mC → mC x = some v → wpAny (model prog w) A (eval elt (compEnvC scope cl' C env)) (fun y s₄ => F v y ∧ Keeps (sh s' h₁ t₁) s₄) E' (sh s' h₁ t₁))
    (hq : ∀ D h' t' ys n, St g L (upd m y (.ref D)) ((D, W.listOf ys n) :: news) h' → (∀ p ∈ news, p.1 ≠ D) → Paired F (vs.toList.filter p) ys.toList → K (sh s h' t')) :
    wpAny (model prog w) A (pyIter (.ref l)) (CompSt prog w A env scope cl' x ifs elt p F y K) E (sh s h t) := by
  refine wpAny_pyIter_list (s := sh s h t) hl ?_
  have hIL : h.objs.size ≠ L := Ne.symm (Nat.ne_of_lt S.Llt)
  have hIg : g.get? h.objs.size = none := S.freshAt (Nat.le_refl _)
  have hIn : ∀ p ∈ news, p.1 ≠ h.objs.size := fun p hp => Nat.ne_of_lt (S.lt p hp)
  have S₀ : St g L m news (h.push { cls := .type "list_iterator", data := .fields #[.ref l, .int 0 0] }) := (S.push (o := { cls := .type "list_iterator", data := .fields #[.ref l, .int 0 0] }) rfl).sub fun p hp => .tail _ hp
  obtain ⟨ol, hol, hcl, nl, hdl⟩ := id hl
  have hlt : l < h.objs.size := Heap.lt_size hol
  refine ⟨h.objs.size, [h.objs.size, l], [h.objs.size], vs.size, _, _, m, rfl, Walks.list hh h.objs.size l (Nat.ne_of_lt hlt) vs, hsz, ⟨⟨_, Heap.get?_push_size _ rfl, rfl, rfl⟩, ⟨ol, Heap.get?_push_of_some _ hol, hcl, nl, hdl⟩⟩, ?_, ?_, ?_,
    quiet_list (t₂ := t) hIL hIg hIn S₀ (fun C i v s' h₁ t₁ mC E' a _ => tests C i v s' h₁ t₁ mC E' a) (fun C i v s' h₁ t₁ mC E' a _ => elts C i v s' h₁ t₁ mC E' a), ?_⟩
  · intro b hb
    show b < (h.push _).objs.size
    rw [Heap.size_push]
    rcases List.mem_cons.mp hb with rfl | hb
    · exact Nat.lt_succ_self _
    · exact Nat.lt_succ_of_lt (List.mem_singleton.mp hb ▸ hlt)
  · rw [hL]
    intro hm
    exact hIL (List.mem_singleton.mp hm).symm
  · rw [hL]; exact S₀.F.ns
  · intro D h' tk ys us hD hL' hpl hlen hP hF hns hk
    rw [hL] at hns hk
    obtain ⟨n, S₁, hne⟩ := comp_end S hD hpl hns hk
    have hus : us = vs.toList := by
      refine List.ext_getElem? fun j => ?_
      cases e : us[j]? with
      | some v => rw [Array.getElem?_toList, hP j v e]
      | none =>
        have : us.length ≤ j := by simpa using e
        rw [List.getElem?_eq_none (by rw [Array.length_toList]; omega)]
    subst hus
    exact hq D h' tk ys n S₁ hne hF
/-- the signs of a str, one by one -/
theorem comp_strS {elt : Expr} {x y : Str} {scope : Scope} {cl' : List (Str × Addr)} {l : List Nat} {tt : Tok} {f : Nat → Int} {K : Shared → Prop} (hh : A.handled = none) (hL : env.locals = L)
    (S : St g L m news h) (hsz : l.length ≤ sizeLine)
    (elts : ∀ (C : Addr) (c : Nat) (u : Tok) (s' : Shared) (h₁ : Heap) (t₁ : Nat) (mC : Str → Option Value) (E' : Value → Shared → Prop), St g L m news h₁ → h₁.Ns C mC → mC x = some (.str (so [c]) u) → wpAny (model prog w) A (eval elt (compEnvC scope cl' C env)) (fun y s₄ => (∃ u, y = .int (f c) u) ∧ Keeps (sh s' h₁ t₁) s₄) E' (sh s' h₁ t₁))
    (hq : ∀ D h' t' ys n, St g L (upd m y (.ref D)) ((D, W.listOf ys n) :: news) h' → (∀ p ∈ news, p.1 ≠ D) → IntsAre ys.toList (l.map f) → K (sh s h' t')) :
    wpAny (model prog w) A (pyIter (.str (so l) tt)) (CompSt prog w A env scope cl' x [] elt (fun _ => true) (fun v y => ∃ c u, v = .str (so [c]) u ∧ ∃ u, y = .int (f c) u) y K) E (sh s h t) := by
  refine wpAny_pyIter_str (s := sh s h t) fun o St W hst => ?_
  have hIL : h.objs.size ≠ L := Ne.symm (Nat.ne_of_lt S.Llt)
  have hIg : g.get? h.objs.size = none := S.freshAt (Nat.le_refl _)
  have hIn : ∀ p ∈ news, p.1 ≠ h.objs.size := fun p hp => Nat.ne_of_lt (S.lt p hp)
  have hsz' : (so l).cps.size ≤ sizeLine := by simpa using hsz
  have S₁ : ∀ h', (∀ b o', b ∉ [h.objs.size] → (h.push o).get? b = some o' → h'.get? b = some o') → Mine.St g L m news h' := fun h' hk => S.keeps fun b o' e => hk b o' (by simpa using Nat.ne_of_lt (Heap.lt_size e)) (Heap.get?_push_of_some _ e)
  refine ⟨h.objs.size, [h.objs.size], [h.objs.size], (so l).cps.size, SignAt (so l), St, m, rfl, W A hh, hsz', hst, ?_, ?_, ?_, ⟨?_, ?_⟩, ?_⟩
  · intro b hb
    show b < (h.push o).objs.size
    rw [Heap.size_push, List.mem_singleton.mp hb]
    exact Nat.lt_succ_self _
  · rw [hL]
    intro hm
    exact hIL (List.mem_singleton.mp hm).symm
  · rw [hL]; exact (S₁ _ fun _ _ _ e => e).F.ns
  · intro C i v s₃ m₃ E' hC hP hn hm hk _
    exact wpAny_tests_nil ⟨rfl, s₃.heap, s₃.toks, rfl, fun _ _ e => e⟩
  · intro C i v s₃ m₃ E' hC hP hp hn hm hk _
    obtain ⟨c, u, hc, rfl⟩ := hP
    exact wpAny_mono (elts C c u s₃ s₃.heap s₃.toks m₃ E' (S₁ _ hk) hn hm) (fun r s₄ h₄ => ⟨⟨c, u, rfl, h₄.1⟩, h₄.2⟩) fun _ _ e => e
  · intro D h' tk ys us hD hL' hpl hlen hP hF hns hk
    rw [hL] at hns hk
    obtain ⟨n, S₁, hne⟩ := comp_end S hD hpl hns hk
    refine hq D h' tk ys n S₁ hne ?_
    rw [filter_tt] at hF
    have hul : us.length = l.length := by rw [hlen]; simp
    have hyl := Paired.len hF
    refine ints_of _ _ (by rw [← hyl, hul, List.length_map]) fun j v k hv hk => ?_
    have hj : j < us.length := by
      have := (List.getElem?_eq_some_iff.mp hv).1
      omega
    obtain ⟨b, hb, c, u, e1, u', e2⟩ := Paired.at_ hF j us[j] (List.getElem?_eq_getElem hj)
    obtain ⟨c', u'', hc', e3⟩ := hP j us[j] (List.getElem?_eq_getElem hj)
    rw [hv] at hb
    cases hb
    rw [e1] at e3
    have e4 : so [c] = so [c'] := (Value.str.inj e3).1
    have e5 : c = c' := by simpa using e4
    subst e5
    have : (l.map f)[j]? = some (f c) := by
      rw [List.getElem?_map, show l[j]? = some c by simpa using hc']; rfl
    rw [this] at hk
    cases hk
    exact ⟨u', e2⟩
end
end
noncomputable section
section
variable {prog : Program} {w : World} {A : Around} {E : Value → Shared → Prop} {s : Shared} {h : Heap} {t : Nat} {g : Heap} {L : Addr} {m : Str → Option Value} {news : List (Addr × Obj)} {env : Env}
theorem St.ne_of {a b : Addr} {o o' : Obj} (S : St g L m news h) (ha : (a, o) ∈ news) (hb : (b, o') ∈ news) (hne : o ≠ o') : a ≠ b := fun e => by
  subst e
  exact hne (Option.some.inj ((S.N _ ha).1.symm.trans (S.N _ hb).1))
/-- a row that has its numbers for sure -/
structure RowOk (r : LRow) : Prop where
  name : r.name < 4096
  ends : Ends13 r
  len : r.nums.length ≤ 20
  lt : ∀ n ∈ r.nums, n < 64 ^ 9
def RowsOk (rows : List LRow) : Prop := ∀ r ∈ rows, RowOk r
theorem beq_dec (a b : List Nat) : (a == b) = decide (a = b) := by by_cases h : a = b <;> simp [h]
theorem bne_dec (a b : List Nat) : (a != b) = !decide (a = b) := by unfold bne; rw [beq_dec]
end
end
noncomputable section
theorem lcall_any : ∀ (w : World) (deed : Nat) (hd4 : deed ≤ 4) (x dx lst : Addr) (hv : Int) (tk : Tok) (nn : Nat) (k : List Nat) (hk : ∀ c ∈ k, 33 ≤ c ∧ c < 128) (hkz : k.length ≤ 1000) (u : Tok) (v : List Nat) (hv33 : ∀ c ∈ v, 33 ≤ c ∧ c < 128) (hvz : v.length ≤ 1000) (uv : Tok)
    (pt : List Nat) (hp33 : ∀ c ∈ pt, 33 ≤ c ∧ c < 128) (hpz : pt.length ≤ 100) (up ud : Tok)
    (arr : Array Value) (n : Nat) (kvs : Tb) (news : List (Addr × Obj))
    (hx : (x, instObj 182 dx) ∈ news) (hdx : (dx, hdD hv tk lst nn) ∈ news) (hlst : ∀ p ∈ news, p.1 ≠ lst) (ht : Tab news arr kvs) (hz : kvs.length ≤ 1000) (hkv : ∀ kv ∈ kvs, kv.1.length ≤ 1000 ∧ ∀ c ∈ kv.1, c < 128),
    FnS w 4 229 [.ref x, .int (deed : Nat) ud, .str (so k) u, .str (so v) uv, .str (so pt) up] [] ((lst, W.listOf arr n) :: news) (fun r news' => Done news lst (runC deed k v pt kvs) r news') := by
  intro w deed hd4 x dx lst hv tk nn k hk hkz u v hv33 hvz uv pt hp33 hpz up ud arr n kvs news hx hdx hlst ht hz hkv
  rcases (by omega : deed = 0 ∨ deed = 1 ∨ deed = 2 ∨ deed = 3 ∨ deed = 4) with rfl | rfl | rfl | rfl | rfl
  · exact lcall_fn0 w x dx lst hv tk nn k hk hkz u v hv33 hvz uv pt hp33 hpz up ud arr n kvs news hx hdx hlst ht hz hkv
  · exact lcall_fn1 w x dx lst hv tk nn k hk hkz u v hv33 hvz uv pt hp33 hpz up ud arr n kvs news hx hdx hlst ht hz hkv
  · exact lcall_fn2 w x dx lst hv tk nn k hk hkz u v hv33 hvz uv pt hp33 hpz up ud arr n kvs news hx hdx hlst ht hz hkv
  · exact lcall_fn3 w x dx lst hv tk nn k hk hkz u v hv33 hvz uv pt hp33 hpz up ud arr n kvs news hx hdx hlst ht hz hkv
  · exact lcall_fn4 w x dx lst hv tk nn k hk hkz u v hv33 hvz uv pt hp33 hpz up ud arr n kvs news hx hdx hlst ht hz hkv
theorem Is.mono {news news' : List (Addr × Obj)} {v : Value} {a : Ans} (x : Is news v a) (hs : ∀ p ∈ news, p ∈ news') : Is news' v a := by
  cases a with
  | ref => exact x
  | non => exact x
  | txt l => exact x
  | lst ls =>
    obtain ⟨D, ys, n, e, hm, hi⟩ := x
    exact ⟨D, ys, n, e, hs _ hm, hi⟩
/-! the ledger without the addresses that are kept apart -/
def pick (sp : List Addr) (news : List (Addr × Obj)) : List (Addr × Obj) := news.filter fun p => !sp.contains p.1
theorem mem_pick {sp : List Addr} {news : List (Addr × Obj)} {p : Addr × Obj} (h : p ∈ news) (ho : Off sp p.1) : p ∈ pick sp news := by
  refine List.mem_filter.mpr ⟨h, ?_⟩
  have : p.1 ∉ sp := fun hm => ho _ hm rfl
  simpa using this
theorem pick_sub {sp : List Addr} {news : List (Addr × Obj)} : ∀ p ∈ pick sp news, p ∈ news := fun p hp => (List.mem_filter.mp hp).1
theorem sep_pick (sp : List Addr) (news : List (Addr × Obj)) : Sep sp (pick sp news) := by
  intro p hp c hc e
  have := (List.mem_filter.mp hp).2
  rw [e] at this
  simp [hc] at this
section
variable {prog : Program} {w : World} {A : Around} {E : Value → Shared → Prop} {s : Shared} {h : Heap} {t : Nat} {g : Heap} {L : Addr} {m : Str → Option Value} {news : List (Addr × Obj)} {env : Env} {Q : Value → Shared → Prop}
/-- two answers that are one -/
theorem ne_ans {v dv : Value} {a : Ans} (S : St g L m news h) (hv : Is news v a) (hd : Is news dv a) (hok : ∀ ls, a = .lst ls → ∀ l ∈ ls, ∀ c ∈ l, c < 0x110000) (hu : A.units + 64 < cLine) (hq : Q (.bool false) (sh s h t)) :
    wpAny (model prog w) A (compareOp .NotEq v dv) Q E (sh s h t) := by
  cases a with
  | ref =>
    obtain ⟨u, rfl⟩ := hv
    obtain ⟨u', rfl⟩ := hd
    exact o_nes hq
  | non =>
    have e1 : v = .none := hv
    have e2 : dv = .none := hd
    subst e1 e2
    exact o_neN SeqAt.RcNeAt.none_none hq
  | txt l =>
    obtain ⟨u, rfl⟩ := hv
    obtain ⟨u', rfl⟩ := hd
    refine o_nes ?_
    rw [show (l != l) = false by simp]
    exact hq
  | lst ls =>
    obtain ⟨D, ys, n, rfl, hm, hi⟩ := hv
    obtain ⟨D', ys', n', rfl, hm', hi'⟩ := hd
    refine o_neS S hm hm' hi hi' hu (hok ls rfl) (hok ls rfl) ?_
    rw [decide_eq_true rfl]
    exact hq
theorem e_sliceK {e : Expr} {p : Pos} (hq : wpAny (model prog w) A (eval e env) (fun v s₁ => ∃ i u h₁ t₁, v = .int i u ∧ s₁ = sh s h₁ t₁ ∧ St g L m news h₁ ∧ ∀ sl h', (∀ p ∈ news, p.1 < sl) → St g L m ((sl, slO i u) :: news) h' → (∀ b o, h₁.get? b = some o → h'.get? b = some o) → Q (.ref sl) (sh s h' t₁)) E (sh s h t)) :
    wpAny (model prog w) A (eval (.Slice none (some e) none p) env) Q E (sh s h t) := by
  rw [arm_eval_Slice]
  refine wpAny_bind (wpAny_of_eq (a := .none) rfl (wpAny_bind (wpAny_holding ?_)))
  refine wpAny_mono (show wpAny (model prog w) A (eval e env) _ E (sh s h t) from hq) (fun v s₁ q => ?_) fun _ _ x => x
  obtain ⟨i, u, h₁, t₁, rfl, rfl, S₁, k⟩ := q
  refine wpAny_bind (wpAny_holding (wpAny_of_eq (a := .none) rfl ?_))
  simp only [newFields]
  refine wpAny_newObj_type ?_ (by size_fits)
  exact k _ _ S₁.lt (S₁.push (o := slO i u) rfl) fun b o e => Heap.get?_push_of_some _ e
end
theorem byL_ints (l : List Nat) (h : ∀ c ∈ l, c < 256) : KBw.bInts (byL l) = iz l := by
  unfold KBw.bInts byL
  simp only [List.map_map]
  refine List.map_congr_left fun c hc => ?_
  have := h c hc
  show ((c.toUInt8.toNat : Nat) : Int) = Int.ofNat c
  have e : c.toUInt8.toNat = c := by
    rw [Nat.toUInt8_eq, UInt8.toNat_ofNat']
    omega
  rw [e]; rfl
theorem Tab.to {N R : List (Addr × Obj)} {arr : Array Value} {kvs : List (List Nat × List Nat)} (x : Tab N arr kvs) (hs : ∀ t vs, (t, tupO vs) ∈ N → (t, tupO vs) ∈ R) : Tab R arr kvs :=
  Paired.monoF x fun _ _ ⟨t, u₁, u₂, e, hm⟩ => ⟨t, u₁, u₂, e, hs _ _ hm⟩
theorem rep_flat (n : Nat) : (List.replicate n [34]).flatten = List.replicate n 34 := by
  induction n with
  | zero => rfl
  | succ n ih => rw [List.replicate_succ, List.flatten_cons, ih]; rfl
theorem quote_so : Str.ofString "\"" = so [34] := by decide +kernel
end
noncomputable section
theorem figs_up (n : Nat) : n < 64 ^ (figs n).length := by
  induction n using Nat.strongRecOn with
  | ind n ih =>
    rcases Nat.eq_zero_or_pos n with h0 | h0
    · subst h0; rw [figs_zero]; decide
    · rw [figs_pos h0, List.length_append, List.length_singleton, Nat.pow_succ]
      have := ih (n / 64) (by omega)
      omega
theorem dblF_len (l : List Nat) : (dblF l).length ≤ 2 * l.length := by
  induction l with
  | nil => simp [dblF]
  | cons f r ih =>
    unfold dblF at ih ⊢
    rw [List.flatMap_cons, List.length_append, List.length_cons]
    have : (if f = 28 then [28, 28] else [f]).length ≤ 2 := by split <;> simp
    omega
theorem told_lt (n : Nat) (h : n < 4096) : toldOf n < 64 ^ 4 := by
  have h1 := figs_up (toldOf n)
  rw [told_figs] at h1
  have h2 := dblF_len (figs n)
  have h3 := figs_len 2 n h
  exact Nat.lt_of_lt_of_le h1 (Nat.pow_le_pow_right (by decide) (by omega))
theorem partL_lt (w marks : Nat) (hw : w < 4096) : ∀ n ∈ partL w marks, n < 64 ^ 9 := by
  have ht := told_lt w hw
  intro n hn
  unfold partL at hn
  split at hn
  · simp only [List.mem_append, List.mem_cons, List.mem_replicate, List.not_mem_nil, or_false] at hn
    omega
  · split at hn <;> simp only [List.mem_cons, List.not_mem_nil, or_false] at hn <;> omega
theorem fresh_ok (deed name value part marks : Nat) (hn : name < 4096) (hv : value < 64 * 63) (hp : part < 4096) (hm : marks ≤ 2) (hpl : (partL part marks).length ≤ 6) : RowOk (freshL deed name value part marks) := by
  refine ⟨hn, (val_fresh deed name value part marks).1, ?_, ?_⟩
  · unfold freshL
    dsimp only
    split
    · simp; omega
    · simp
  · unfold freshL
    dsimp only
    intro n hn
    split at hn
    · rcases List.mem_append.mp hn with hn | hn
      · rcases List.mem_append.mp hn with hn | hn
        · simp only [List.mem_cons, List.not_mem_nil, or_false] at hn; omega
        · exact partL_lt part marks hp n hn
      · simp only [List.mem_cons, List.not_mem_nil, or_false] at hn; omega
    · simp only [List.mem_cons, List.not_mem_nil, or_false] at hn; omega
theorem RowsOk.filter {rows : List LRow} (h : RowsOk rows) (P : LRow → Bool) : RowsOk (rows.filter P) := fun r hr => h r (List.mem_filter.mp hr).1
theorem RowsOk.snoc {rows : List LRow} {r : LRow} (h : RowsOk rows) (hr : RowOk r) : RowsOk (rows ++ [r]) := fun x hx => by
  rcases List.mem_append.mp hx with hx | hx
  · exact h x hx
  · exact List.mem_singleton.mp hx ▸ hr
theorem step_ok (rows : List LRow) (deed name value part marks : Nat) (h : RowsOk rows) (hf : RowOk (freshL deed name value part marks)) : RowsOk (stepL rows deed name value part marks).2 ∧ (stepL rows deed name value part marks).2.length ≤ rows.length + 1 := by
  have ho : RowsOk (othersL rows name) := h.filter _
  have hol : (othersL rows name).length ≤ rows.length := List.length_filter_le _ _
  unfold stepL
  split
  · exact ⟨h, Nat.le_succ _⟩
  · split
    · exact ⟨ho, by dsimp only; omega⟩
    · split
      · exact ⟨h, Nat.le_succ _⟩
      · split
        · dsimp only
          split
          · exact ⟨ho, by omega⟩
          · exact ⟨h, by omega⟩
        · split
          · exact ⟨ho.snoc hf, by simp; omega⟩
          · exact ⟨h.snoc hf, by simp⟩
theorem headL_len (rows : List LRow) (h : RowsOk rows) : (headL rows).length ≤ 23 * rows.length := by
  induction rows with
  | nil => simp [headL]
  | cons r rs ih =>
    have h1 := (h r (.head _)).len
    have h2 := ih fun x hx => h x (.tail _ hx)
    show (rowNums r ++ headL rs).length ≤ _
    rw [List.length_append, List.length_cons]
    have : (rowNums r).length = r.nums.length + 3 := by simp [rowNums]
    omega
theorem headL_lt (rows : List LRow) (h : RowsOk rows) : ∀ n ∈ headL rows, n < 64 ^ 9 := by
  intro n hn
  unfold headL at hn
  obtain ⟨l, hl, hn⟩ := List.mem_flatten.mp hn
  obtain ⟨r, hr, rfl⟩ := List.mem_map.mp hl
  have h1 := (h r hr).name
  have h2 := (h r hr).lt
  unfold rowNums at hn
  rcases List.mem_append.mp hn with hn | hn
  · rcases List.mem_append.mp hn with hn | hn
    · simp only [List.mem_cons, List.not_mem_nil, or_false] at hn; omega
    · exact h2 n hn
  · simp only [List.mem_cons, List.not_mem_nil, or_false] at hn; omega
theorem headL_take (rows : List LRow) (i : Nat) (r : LRow) (h : rows[i]? = some r) : headL (rows.take (i + 1)) = headL (rows.take i) ++ rowNums r := by
  unfold headL
  rw [List.take_add_one, h]
  simp
theorem textL_lt (ns : List Nat) : ∀ c ∈ textL ns, c < 128 := by
  intro c hc
  unfold textL at hc
  obtain ⟨l, hl, hc⟩ := List.mem_flatten.mp hc
  obtain ⟨n, hn, rfl⟩ := List.mem_map.mp hl
  rcases List.mem_append.mp hc with hc | hc
  · exact (word_rng _ c hc).2
  · have := List.mem_singleton.mp hc
    omega
theorem valOf_ok (r : LRow) (h : RowOk r) : (valOf r).length ≤ 10000 ∧ ∀ c ∈ valOf r, c < 128 := by
  have h1 := textL_len r.nums fun n hn => by have := h.lt n hn; omega
  have h2 := h.len
  unfold valOf
  refine ⟨?_, fun c hc => textL_lt r.nums c (List.dropLast_subset _ hc)⟩
  rw [List.length_dropLast]; omega
end
noncomputable section
/-- the numbers of a turn in the law's frame -/
structure NumsAt (m : Str → Option Value) (deed name value part marks : Nat) : Prop where
  deed : ∃ u, m (Str.ofString "deed") = some (.int (deed : Nat) u)
  name : ∃ u, m (Str.ofString "name") = some (.int (name : Nat) u)
  value : ∃ u, m (Str.ofString "value") = some (.int (value : Nat) u)
  part : ∃ u, m (Str.ofString "part") = some (.int (part : Nat) u)
  marks : ∃ u, m (Str.ofString "marks") = some (.int (marks : Nat) u)
structure Rng (deed name value part marks : Nat) : Prop where
  deed : deed ≤ 4
  name : name < 4096
  value : value < 64 * 63
  part : part < 4096
  marks : marks < 3
section
variable {prog : Program} {w : World} {A : Around} {E : Value → Shared → Prop} {s : Shared} {h : Heap} {t : Nat} {g : Heap} {L : Addr} {m : Str → Option Value} {news : List (Addr × Obj)} {env : Env} {pos : Pos} {u v : Tok} {Q : Value → Shared → Prop}
theorem i_listN {value slice : Expr} {l : Addr} {vs : Array Value} {n k : Nat} (P : Nat → Prop) (S : St g L m news h) (ht : (l, W.listOf vs n) ∈ news) (hx : ∃ (y : Nat) (uy : Tok), vs[k]? = some (.int (y : Nat) uy) ∧ P y) (hk : k < 2 ^ 40)
    (hs : subscripted slice false (.ref l) (.int (k : Nat) u) = operate [.ref l, .int (k : Nat) u] (getItem (.ref l) (.int (k : Nat) u))) (hq : ∀ (y : Nat) uy, P y → Q (.int (y : Nat) uy) (sh s h t)) :
    wpAny (model prog w) A (subscriptTail value slice (.ref l) (.int (k : Nat) u)) Q E (sh s h t) := by
  obtain ⟨y, uy, hx, hp⟩ := hx
  exact i_listT S ht hx hk hs (hq y uy hp)
end
theorem turnA : ∀ (w : World) {oc : Value} {od : Option Addr} {osl : Array (Option Value)} {name qual : Str} {params : Arguments} {body : List Stmt} {scope : Scope} {dV kV doc pm cdv ct : Value} {an : Option Addr}
    (ho : (hd.heap_39 w.params).lookup 234 = some ⟨oc, od, .func (fnX name qual params body scope [] dV kV doc pm an cdv ct), osl⟩)
    {ftgt fit : Expr} {fbody : List Stmt} {felse : List Stmt} {fpos : Pos} (hb : body[3]? = some (.For ftgt fit fbody felse fpos))
    {fa : Addr} {cd : Value} {p : Program} {loose : List Str} {mean : ExcName → Option Value} {mg mb : Str → Option Value} {dp un : Nat} {gd : Option (List Code)} {L : Addr} {A₀ : Around} {g : Heap} {m : Str → Option Value} {news : List (Addr × Obj)} {s : Shared} {h : Heap} {t : Nat} {Q : Flow → Shared → Prop} {E : Value → Shared → Prop}
    {xi : Int} {ux : Tok} {i : Nat} {ui : Tok} {lr : Addr} {vr : Array Value} {cr : Nat} {rows : List LRow},
    Cx w p loose mean mg mb scope [] A₀ g g → St g L m news h → m (Str.ofString "x") = some (.int xi ux) → m (Str.ofString "place") = some (.int (i : Nat) ui) → m (Str.ofString "rows") = some (.ref lr) →
    i ≤ 10 → rows.length ≤ 10 → (lr, W.listOf vr cr) ∈ news → LTab news vr rows → (∀ r ∈ rows, r.name < 4096) → dp + 10 < recursionLimit → un + 200 < cLine →
    (∀ h' t' m' deed name value part marks, St g L m' news h' → Rng deed name value part marks → NumsAt m' deed name value part marks → m' (Str.ofString "table") = m (Str.ofString "table") → m' (Str.ofString "rows") = m (Str.ofString "rows") → m' (Str.ofString "place") = m (Str.ofString "place") →
      wpAny (model PySem.Challenge.rw_pm0042_01.row.prog w) (ktrTop dp un gd qual scope L fa cd (cellsFrom (L + 1) scope.names []) []) (execs (fbody.drop 9) (envX qual scope L fa cd (cellsFrom (L + 1) scope.names []))) Q E (sh s h' t')) →
    wpAny (model PySem.Challenge.rw_pm0042_01.row.prog w) (ktrTop dp un gd qual scope L fa cd (cellsFrom (L + 1) scope.names []) []) (execs fbody (envX qual scope L fa cd (cellsFrom (L + 1) scope.names []))) Q E (sh s h t) := by
  intro w oc od osl name qual params body scope dV kV doc pm cdv ct an ho ftgt fit fbody felse fpos hb fa cd p loose mean mg mb dp un gd L A₀ g m news s h t Q E xi ux i ui lr vr cr rows C S e1 e2 e3 hi hrl hlr hLT hrn hd hu next
  have key : ∀ {X : Obj}, (_root_.hd.heap_39 w.params).lookup 234 = some X → some X = some (⟨oc, od, .func (fnX name qual params body scope [] dV kV doc pm an cdv ct), osl⟩ : Obj) := fun h => h.symm.trans ho
  have e := key (by k_is)
  cases e
  clear key ho
  have hb := Option.some.inj hb
  cases hb
  walk_at "VJ"
  have S₁ := ‹St g L (upd (upd (upd (upd m _ _) _ _) _ _) _ _) _ _›
  obtain ⟨r, hr⟩ : ∃ r : Int, xi.fdiv 25 = r := ⟨_, rfl⟩
  obtain ⟨n0, hn0, hn0l⟩ : ∃ n0 : Nat, r.fmod 4096 = n0 ∧ n0 < 4096 := ⟨_, fmodNN r 4096 (by decide)⟩
  rw [deedN_eq, modeN_eq, hr, hn0] at S₁
  have hdl := deedN_lt xi
  have hml := modeN_lt xi
  generalize deedN xi = deed at S₁ hdl
  generalize modeN xi = mode at S₁ hml
  generalize hm3 : upd (upd (upd m _ _) _ _) _ _ = m₃ at S₁
  obtain ⟨ud, fd⟩ : ∃ u, m₃ (Str.ofString "deed") = some (.int (deed : Nat) u) := by rw [← hm3]; exact ⟨_, rfl⟩
  obtain ⟨um, fm⟩ : ∃ u, m₃ (Str.ofString "mode") = some (.int (mode : Nat) u) := by rw [← hm3]; exact ⟨_, rfl⟩
  obtain ⟨ur, fr⟩ : ∃ u, m₃ (Str.ofString "rest") = some (.int r u) := by rw [← hm3]; exact ⟨_, rfl⟩
  have ft : m₃ (Str.ofString "table") = m (Str.ofString "table") := by rw [← hm3]; rfl
  have frw : m₃ (Str.ofString "rows") = m (Str.ofString "rows") := by rw [← hm3]; rfl
  have fp : m₃ (Str.ofString "place") = m (Str.ofString "place") := by rw [← hm3]; rfl
  clear hm3
  have frw' := frw.trans e3
  have fp' := fp.trans e2
  refine x_ifJ (g := g) (L := L) (fun m' n' => ∃ (N : Nat) (u : Tok), N < 4096 ∧ m' = upd m₃ (Str.ofString "name") (.int (N : Nat) u) ∧ n' = news) ?_ ?_
  · walk_at "V"
    refine ⟨fun hb => ?_, fun hb => ?_⟩
    · have hmode : 0 < mode := by have := of_decide_eq_true hb; omega
      walk_at "V"
      have S₂ := ‹St g L (upd m₃ _ _) (_ :: _) _›
      refine o_neNil S₂ (.tail _ hlr) (.head _) (by show un < _; omega) ?_
      walk_at "V"
      refine ⟨fun hb2 => ?_, fun hb2 => ?_⟩
      · walk_at "V"
        refine ⟨fun _ => ?_, fun h => absurd h.symm Bool.false_ne_true⟩
        have hvs : vr.size ≠ 0 := by simpa using hb2
        have hrs := hLT.size
        walk_at "V"
        refine c_len S₂ (.tail _ hlr) (by rw [sizeLine_eq]; omega) fun u₁ t₁ => ?_
        obtain ⟨k, hk, hkl⟩ : ∃ k : Nat, r.fmod (vr.size : Nat) = k ∧ k < vr.size := ⟨_, fmodNN r vr.size (by omega)⟩
        refine o_mod (by omega) fun u₂ t₂ => ?_
        rw [hk]
        obtain ⟨row, hrow, hrw⟩ := hLT.at_ (i := k) (v := vr[k]) (Array.getElem?_eq_getElem hkl)
        have hrl2 := hrn row (List.mem_of_getElem? hrow)
        obtain ⟨ta, ua, lka, lna, ca, hva, hta, _, _⟩ := hrw
        refine i_list S₂ (.tail _ hlr) (x := .ref ta) (by rw [Array.getElem?_eq_getElem hkl, hva]) (by omega) (by with_unfolding_all rfl) (fun _ => rfl) ?_
        walk_at "V"
        refine i_listT (k := 0) (x := .int (row.name : Nat) ua) S₂ (.tail _ hta) rfl (by decide) (by with_unfolding_all rfl) ?_
        walk_at "V"
        rename_i l₅ h₅ hl₅ S₅
        refine i_listN (k := mode) (· < 4096) S₅ (.head _) ?hx5 (by omega) (by with_unfolding_all rfl) fun y uy hy => ?_
        case hx5 => rcases (by omega : mode = 1 ∨ mode = 2 ∨ mode = 3 ∨ mode = 4) with rfl | rfl | rfl | rfl <;> exact ⟨_, _, rfl, by decide⟩
        walk_at "V"
        have S₆ := ‹St g L (upd (upd m₃ _ _) _ _) _ _›
        rw [xor_nat, upd_upd] at S₆
        exact ⟨rfl, _, _, _, _, rfl, S₆.sub fun p hp => .tail _ (.tail _ hp), _, _, xor_lt hrl2 hy, rfl, rfl⟩
      · refine ⟨fun h => absurd h Bool.false_ne_true, fun _ => ?_⟩
        walk_at "V"
        exact ⟨rfl, _, _, _, _, rfl, S₂.sub fun p hp => .tail _ hp, n0, _, hn0l, rfl, rfl⟩
    · refine ⟨fun h => absurd h Bool.false_ne_true, fun _ => ?_⟩
      walk_at "V"
      exact ⟨rfl, _, _, _, _, rfl, S₁, n0, _, hn0l, rfl, rfl⟩
  · rintro h' t' m' n' S' ⟨N, u, hN, hm', hn'⟩
    obtain rfl := hm'.symm
    obtain rfl := hn'.symm
    walk_at "VJ"
    have S₃ := ‹St g L (upd (upd m₃ _ _) _ _) _ _›
    obtain ⟨r64, hr64, hr64l⟩ : ∃ k : Nat, r.fmod 64 = k ∧ k < 64 := ⟨_, fmodNN r 64 (by decide)⟩
    rw [hr64, show (64 : Int) * (i : Nat) + (r64 : Nat) = ((64 * i + r64 : Nat) : Int) by omega] at S₃
    refine x_ifJ (g := g) (L := L) (fun m' n' => ∃ (V : Nat) (u' : Tok), V < 64 * 63 ∧ m' = upd (upd m₃ (Str.ofString "name") (.int (N : Nat) u)) (Str.ofString "value") (.int (V : Nat) u') ∧ n' = news) ?_ ?_
    · walk_at "V"
      refine ⟨fun _ => ?_, fun _ => ?_⟩
      · walk_at "V"
        have S₄ := ‹St g L (upd (upd (upd m₃ _ _) _ _) _ _) _ _›
        rw [hr64, upd_upd] at S₄
        exact ⟨rfl, _, _, _, _, rfl, S₄, r64, _, by omega, rfl, rfl⟩
      · walk_at "V"
        exact ⟨rfl, _, _, _, _, rfl, S₃, _, _, by omega, rfl, rfl⟩
    · rintro h' t' m' n' S' ⟨V, u', hV, hm', hn'⟩
      obtain rfl := hm'.symm
      obtain rfl := hn'.symm
      walk_at "VJ"
      rename_i l₅ h₅ hl₅ S₅
      obtain ⟨p0, hp0, hp0l⟩ : ∃ k : Nat, (r.fdiv 64).fmod 4096 = k ∧ k < 4096 := ⟨_, fmodNN (r.fdiv 64) 4096 (by decide)⟩
      refine i_listN (k := mode) (· < 4096) S₅ (.head _) ?hx5 (by omega) (by with_unfolding_all rfl) fun y uy hy => ?_
      case hx5 =>
        rw [hp0]
        rcases (by omega : mode = 0 ∨ mode = 1 ∨ mode = 2 ∨ mode = 3 ∨ mode = 4) with rfl | rfl | rfl | rfl | rfl <;> exact ⟨_, _, rfl, by first | exact hp0l | decide⟩
      walk_at "VS"
      walk_at "S1"
      have S₆ := ‹St g L (upd (upd (upd (upd m₃ _ _) _ _) _ _) _ _) _ _›
      obtain ⟨k3, hk3, hk3l⟩ : ∃ k : Nat, r.fmod 3 = k ∧ k < 3 := ⟨_, fmodNN r 3 (by decide)⟩
      rw [hk3] at S₆
      exact next _ _ _ deed N V y k3 (S₆.sub fun p hp => .tail _ hp) ⟨by omega, hN, hV, hy, hk3l⟩ ⟨⟨_, fd⟩, ⟨_, rfl⟩, ⟨_, rfl⟩, ⟨_, rfl⟩, ⟨_, rfl⟩⟩ ft frw fp
end
noncomputable section
theorem partL_len (w marks : Nat) (h : marks ≤ 2) : (partL w marks).length ≤ 6 := by
  unfold partL
  split
  · simp; omega
  · split <;> simp
theorem turnB : ∀ (w : World) {oc : Value} {od : Option Addr} {osl : Array (Option Value)} {fname qual : Str} {params : Arguments} {body : List Stmt} {scope : Scope} {dV kV doc pm cdv ct : Value} {an : Option Addr}
    (ho : (hd.heap_39 w.params).lookup 234 = some ⟨oc, od, .func (fnX fname qual params body scope [] dV kV doc pm an cdv ct), osl⟩)
    {ftgt fit : Expr} {fbody : List Stmt} {felse : List Stmt} {fpos : Pos} (hb : body[3]? = some (.For ftgt fit fbody felse fpos))
    {fa : Addr} {cd : Value} {p : Program} {loose : List Str} {mean : ExcName → Option Value} {mg mb : Str → Option Value} {dp un : Nat} {gd : Option (List Code)} {L : Addr} {A₀ : Around} {g : Heap} {m : Str → Option Value} {s : Shared} {h : Heap} {t : Nat} {Q : Flow → Shared → Prop} {E : Value → Shared → Prop}
    {lst I : Addr} {lo oc₁ oI : Obj} {rest : List (Addr × Obj)} {cv : Option Value} {deed name value part marks : Nat} {lr : Addr} {vr : Array Value} {cr : Nat} {rows : List LRow},
    Cx w p loose mean mg mb scope [] A₀ g g → St g L m ((lst, lo) :: (L + 1, oc₁) :: (I, oI) :: rest) h → Sep [lst, L + 1, I] rest → lst ≠ L + 1 → I ≠ L + 1 → oc₁.data = .cell cv → m (Str.ofString "rows") = some (.ref lr) →
    (lr, W.listOf vr cr) ∈ rest → LTab rest vr rows → rows.length ≤ 10 → NumsAt m deed name value part marks → Rng deed name value part marks → dp + 10 < recursionLimit → un + 200 < cLine →
    (∀ h' t' mf R0 oc' lk vk ck fr D₁ ys₁ n₁ D₂ ys₂ n₂, St g L mf ((lst, lo) :: (L + 1, oc') :: (I, oI) :: R0) h' → Sep [lst, L + 1, I] R0 → (∀ p ∈ rest, p ∈ R0) → oc'.data = .cell (some (.ref lk)) → (lk, W.listOf vk ck) ∈ R0 → IntsAre vk.toList (iz (kindL name)) →
      (D₁, W.listOf ys₁ n₁) ∈ R0 → LTab R0 ys₁ (alikeL rows name) → (D₂, W.listOf ys₂ n₂) ∈ R0 → LTab R0 ys₂ (othersL rows name) → LRowAt R0 (.ref fr) (freshL deed name value part marks) →
      mf (Str.ofString "rows") = some (.ref lr) → mf (Str.ofString "alike") = some (.ref D₁) → mf (Str.ofString "others") = some (.ref D₂) → mf (Str.ofString "fresh") = some (.ref fr) →
      NumsAt mf deed name value part marks → mf (Str.ofString "table") = m (Str.ofString "table") → mf (Str.ofString "place") = m (Str.ofString "place") →
      wpAny (model PySem.Challenge.rw_pm0042_01.row.prog w) (ktrTop dp un gd qual scope L fa cd (cellsFrom (L + 1) scope.names []) []) (execs (fbody.drop 14) (envX qual scope L fa cd (cellsFrom (L + 1) scope.names []))) Q E (sh s h' t')) →
    wpAny (model PySem.Challenge.rw_pm0042_01.row.prog w) (ktrTop dp un gd qual scope L fa cd (cellsFrom (L + 1) scope.names []) []) (execs (fbody.drop 9) (envX qual scope L fa cd (cellsFrom (L + 1) scope.names []))) Q E (sh s h t) := by
  intro w oc od osl fname qual params body scope dV kV doc pm cdv ct an ho ftgt fit fbody felse fpos hb fa cd p loose mean mg mb dp un gd L A₀ g m s h t Q E lst I lo oc₁ oI rest cv deed name value part marks lr vr cr rows C S hsep hlc hIc hcell frw hlr hLT hrl hnums hrng hd hu next
  have key : ∀ {X : Obj}, (_root_.hd.heap_39 w.params).lookup 234 = some X → some X = some (⟨oc, od, .func (fnX fname qual params body scope [] dV kV doc pm an cdv ct), osl⟩ : Obj) := fun h => h.symm.trans ho
  have e := key (by k_is)
  cases e
  clear key ho
  have hb := Option.some.inj hb
  cases hb
  simp only [List.drop_succ_cons, List.drop_zero]
  obtain ⟨⟨ud, fd⟩, ⟨un', fn⟩, ⟨uv, fv⟩, ⟨up, fp⟩, ⟨um, fm⟩⟩ := hnums
  obtain ⟨rd, rn, rv, rp, rm⟩ := hrng
  walk_at "S1"
  refine kind_fn w name (by omega) _ _ C S (by walk_at "RM") (by walk_at "RM") ?_
  rintro _ _ h₁ t₁ S₁ hk₁ hne₁ ⟨lk, vk, ck, rfl, rfl, hik⟩
  have hhas : Has [lst, L + 1, I] ((lst, lo) :: (L + 1, oc₁) :: (I, oI) :: rest) := .one (.head _) (.one (.tail _ (.head _)) (.one (.tail _ (.tail _ (.head _))) .nil))
  have olk := off_fn hhas hne₁
  have S₂ := S₁.sub (news' := (L + 1, oc₁) :: (lk, W.listOf vk ck) :: (lst, lo) :: (I, oI) :: rest) (by
    rintro p (_ | ⟨_, _ | ⟨_, _ | ⟨_, _ | ⟨_, hp⟩⟩⟩⟩)
    · exact .tail _ (.tail _ (.head _))
    · exact .head _
    · exact .tail _ (.head _)
    · exact .tail _ (.tail _ (.tail _ (.head _)))
    · exact .tail _ (.tail _ (.tail _ (.tail _ hp))))
  refine x_storeC S₂ ?hcN rfl hcell rfl rfl fun h₃ oc' S₃ hoc' => ?_
  case hcN =>
    rintro p (_ | ⟨_, _ | ⟨_, _ | ⟨_, hp⟩⟩⟩)
    · exact olk _ (.tail _ (.head _))
    · exact hlc
    · exact hIc
    · exact hsep.ne (.tail _ (.head _)) p hp
  refine x_compS (genP (LRowAt rest) fun r => kindL r.name == kindL name) (fun v y => y = v) rfl rfl (by decide) rfl (by decide) rfl rfl rfl (fun _ => rfl) ?_
  walk_at "VS"
  refine comp_listS rfl rfl S₃ (S₃.isList (.tail _ <| .tail _ <| .tail _ <| .tail _ <| hlr)) (by rw [sizeLine_eq, hLT.size]; omega) (fun C' i v s' h₄ t₄ mC E' hv S₄ hn hm => ?_) (fun C' i v s' h₄ t₄ mC E' hv hp S₄ hn hm => ?_) ?_
  · refine wpAny_tests_one ?_
    obtain ⟨row, hri, hrw⟩ := hLT.at_ hv
    rw [genP_eq (LRowAt.uniq (S₄.sub (news' := rest) fun p hp => .tail _ <| .tail _ <| .tail _ <| .tail _ <| hp)) hrw]
    obtain ⟨ta, ua, lka, lna, ca, rfl, hta, ⟨xa, cka, hka, hika⟩, _⟩ := hrw
    walk_at "V"
    refine i_list (k := 1) (x := .ref lka) S₄ (.tail _ <| .tail _ <| .tail _ <| .tail _ <| hta) rfl (by decide) (by with_unfolding_all rfl) (fun _ => rfl) ?_
    refine e_cell (v := .ref lk) S₄ (c := L + 1) (o := oc') rfl (by walk_at "MEM") hoc' rfl rfl (by decide) ?_
    refine o_eqI S₄ (.tail _ <| .tail _ <| .tail _ <| .tail _ <| hka) (by walk_at "MEM") hika hik (by show un + 64 < _; omega) ?_
    walk_at "V"
    exact ⟨by rw [beq_dec], h₄, _, rfl, fun _ _ e => e⟩
  · walk_at "V"
    exact ⟨rfl, h₄, t₄, rfl, fun _ _ e => e⟩
  intro D₁ h₅ t₅ ys₁ n₁ S₅ hne₅ hp₅
  have hy₁ := gen_filter (LRowAt.uniq (S₅.sub (news' := rest) fun p hp => .tail _ <| .tail _ <| .tail _ <| .tail _ <| .tail _ <| hp)) (fun r => kindL r.name == kindL name) hLT
  rw [← paired_eq hp₅] at hy₁
  clear hp₅
  change LTab rest ys₁ (alikeL rows name) at hy₁
  have hhas₃ : Has [lst, L + 1, I] ((L + 1, oc') :: (lk, W.listOf vk ck) :: (lst, lo) :: (I, oI) :: rest) := .one (by walk_at "MEM") (.one (by walk_at "MEM") (.one (by walk_at "MEM") .nil))
  have oD₁ := off_ne hhas₃ hne₅
  refine x_compS (genP (LRowAt rest) fun r => kindL r.name != kindL name) (fun v y => y = v) rfl rfl (by decide) rfl (by decide) rfl rfl rfl (fun _ => rfl) ?_
  walk_at "VS"
  refine comp_listS rfl rfl S₅ (S₅.isList (.tail _ <| .tail _ <| .tail _ <| .tail _ <| .tail _ <| hlr)) (by rw [sizeLine_eq, hLT.size]; omega) (fun C' i v s' h₄ t₄ mC E' hv S₄ hn hm => ?_) (fun C' i v s' h₄ t₄ mC E' hv hp S₄ hn hm => ?_) ?_
  · refine wpAny_tests_one ?_
    obtain ⟨row, hri, hrw⟩ := hLT.at_ hv
    rw [genP_eq (LRowAt.uniq (S₄.sub (news' := rest) fun p hp => .tail _ <| .tail _ <| .tail _ <| .tail _ <| .tail _ <| hp)) hrw]
    obtain ⟨ta, ua, lka, lna, ca, rfl, hta, ⟨xa, cka, hka, hika⟩, _⟩ := hrw
    walk_at "V"
    refine i_list (k := 1) (x := .ref lka) S₄ (.tail _ <| .tail _ <| .tail _ <| .tail _ <| .tail _ <| hta) rfl (by decide) (by with_unfolding_all rfl) (fun _ => rfl) ?_
    refine e_cell (v := .ref lk) S₄ (c := L + 1) (o := oc') rfl (by walk_at "MEM") hoc' rfl rfl (by decide) ?_
    refine o_neI S₄ (.tail _ <| .tail _ <| .tail _ <| .tail _ <| .tail _ <| hka) (by walk_at "MEM") hika hik (by show un + 64 < _; omega) ?_
    walk_at "V"
    exact ⟨by rw [bne_dec], h₄, _, rfl, fun _ _ e => e⟩
  · walk_at "V"
    exact ⟨rfl, h₄, t₄, rfl, fun _ _ e => e⟩
  intro D₂ h₆ t₆ ys₂ n₂ S₆ hne₆ hp₆
  have hy₂ := gen_filter (LRowAt.uniq (S₆.sub (news' := rest) fun p hp => .tail _ <| .tail _ <| .tail _ <| .tail _ <| .tail _ <| .tail _ <| hp)) (fun r => kindL r.name != kindL name) hLT
  rw [← paired_eq hp₆] at hy₂
  clear hp₆
  change LTab rest ys₂ (othersL rows name) at hy₂
  have oD₂ := off_ne hhas₃.cons hne₆
  have hhas₆ : Has [lst, L + 1, I] ((D₂, W.listOf ys₂ n₂) :: (D₁, W.listOf ys₁ n₁) :: (L + 1, oc') :: (lk, W.listOf vk ck) :: (lst, lo) :: (I, oI) :: rest) := hhas₃.cons.cons
  have hnw := hne₆
  obtain ⟨B0, hB0⟩ : ∃ B : List (Addr × Obj), B = (D₂, W.listOf ys₂ n₂) :: (D₁, W.listOf ys₁ n₁) :: (L + 1, oc') :: (lk, W.listOf vk ck) :: (lst, lo) :: (I, oI) :: rest := ⟨_, rfl⟩
  have mD₂ : (D₂, W.listOf ys₂ n₂) ∈ B0 := by rw [hB0]; walk_at "MEM"
  have mD₁ : (D₁, W.listOf ys₁ n₁) ∈ B0 := by rw [hB0]; walk_at "MEM"
  have mcell : (L + 1, oc') ∈ B0 := by rw [hB0]; walk_at "MEM"
  have mlk : (lk, W.listOf vk ck) ∈ B0 := by rw [hB0]; walk_at "MEM"
  have mlst : (lst, lo) ∈ B0 := by rw [hB0]; walk_at "MEM"
  have mI : (I, oI) ∈ B0 := by rw [hB0]; walk_at "MEM"
  have mrest : ∀ p ∈ rest, p ∈ B0 := by rw [hB0]; exact fun p hp => .tail _ <| .tail _ <| .tail _ <| .tail _ <| .tail _ <| .tail _ hp
  have mlr := mrest _ hlr
  rw [← hB0] at S₆ hhas₆
  clear hnw hne₆ hne₅ hhas₃ S₅ S₃ S₂ S₁ hne₁ hhas hB0 S
  generalize hmm : upd (upd m _ _) _ _ = mm at S₆
  have fd' : mm (Str.ofString "deed") = some (.int (deed : Nat) ud) := by rw [← hmm]; exact fd
  have fn' : mm (Str.ofString "name") = some (.int (name : Nat) un') := by rw [← hmm]; exact fn
  have fv' : mm (Str.ofString "value") = some (.int (value : Nat) uv) := by rw [← hmm]; exact fv
  have fp' : mm (Str.ofString "part") = some (.int (part : Nat) up) := by rw [← hmm]; exact fp
  have fm' : mm (Str.ofString "marks") = some (.int (marks : Nat) um) := by rw [← hmm]; exact fm
  have fr' : mm (Str.ofString "rows") = some (.ref lr) := by rw [← hmm]; exact frw
  have fa' : mm (Str.ofString "alike") = some (.ref D₁) := by rw [← hmm]; rfl
  have fo' : mm (Str.ofString "others") = some (.ref D₂) := by rw [← hmm]; rfl
  have ft' : mm (Str.ofString "table") = m (Str.ofString "table") := by rw [← hmm]; rfl
  have fpl' : mm (Str.ofString "place") = m (Str.ofString "place") := by rw [← hmm]; rfl
  clear hmm
  walk_at "S1"
  refine e_cell (v := .ref lk) S₆ (c := L + 1) (o := oc') rfl (by walk_at "MEM") hoc' rfl rfl (by decide) ?_
  walk_at "VS"
  rename_i l₇ h₇ hl₇ S₇ l₈ h₈ hl₈ S₈ h₉ t₉ S₉
  have ol₇ := off_lt hhas₆ hl₇
  have ol₈ := off_lt hhas₆.cons hl₈
  refine x_ifJ (g := g) (L := L) (fun m' n' => ∃ fr ln vl cl uN cF, m' = upd mm (Str.ofString "fresh") (.ref fr) ∧ n' = (fr, W.listOf #[.int (name : Nat) uN, .ref lk, .ref ln] cF) :: (ln, W.listOf vl cl) :: B0 ∧ IntsAre vl.toList (iz (freshL deed name value part marks).nums) ∧ Off [lst, L + 1, I] fr ∧ Off [lst, L + 1, I] ln) ?_ ?_
  · walk_at "V"
    refine ⟨fun hb => ?_, fun hb => ?_⟩
    · have hd4 : deed = 4 := by have := eq_of_beq hb; omega
      walk_at "V"
      refine e_cell (v := .ref lk) S₉ (c := L + 1) (o := oc') rfl (by walk_at "MEM") hoc' rfl rfl (by decide) ?_
      walk_at "V"
      rename_i l₁₀ h₁₀ hl₁₀ S₁₀
      refine part_fn w part marks (by omega) (by omega) _ _ _ C S₁₀ (by walk_at "RM") (by walk_at "RM") ?_
      rintro _ tl h₁₁ t₁₁ S₁₁ hk₁₁ hne₁₁ ⟨lp, rfl, vp, cp, hmp, hip⟩
      have hvp := IntsAre.sizeA hip
      have hpl := partL_len part marks (by omega)
      have S₁₂ := S₁₁.sub (news' := (lp, W.listOf vp cp) :: (l₁₀, _) :: (l₈, _) :: (l₇, _) :: B0) (by
        rintro p (_ | ⟨_, hp⟩)
        · exact List.mem_append_left _ hmp
        · exact List.mem_append_right _ hp)
      clear S₁₁
      walk_at "V"
      rename_i a₁ g₁ ha₁ T₁ ux tx l₁₃ h₁₃ hl₁₃ T₂ a₂ g₂ ha₂ T₃ l₁₄ h₁₄ hl₁₄ T₄ h₁₅ t₁₅ T₅
      rw [upd_upd] at T₅
      have T₆ := T₅.sub (news' := (l₁₄, _) :: (a₂, _) :: B0) (by
        rintro p (_ | ⟨_, _ | ⟨_, hp⟩⟩)
        · exact .head _
        · exact .tail _ (.head _)
        · exact .tail _ <| .tail _ <| .tail _ <| .tail _ <| .tail _ <| .tail _ <| .tail _ <| .tail _ hp)
      refine ⟨rfl, _, _, _, _, rfl, T₆, l₁₄, a₂, _, _, _, _, rfl, rfl, ?_, off_lt hhas₆.cons.cons.cons.cons.cons.cons.cons hl₁₄, off_lt hhas₆.cons.cons.cons.cons.cons.cons ha₂⟩
      · rw [freshL, if_pos hd4]
        rw [show (value : Int) * 64 + 59 = ((value * 64 + 59 : Nat) : Int) by omega]
        show IntsAre _ (iz ([value * 64 + 59, 32] ++ partL part marks ++ [13]))
        rw [iz_append, iz_append]
        exact IntsAre.append (IntsAre.append (.cons _ _ (.cons _ _ .nil)) hip) (.cons _ _ .nil)
    · have hd4 : deed ≠ 4 := by have := ne_of_beq_false hb; omega
      walk_at "V"
      refine ⟨rfl, _, _, _, _, rfl, S₉, l₈, l₇, _, _, _, _, rfl, rfl, ?_, ol₈, ol₇⟩
      rw [freshL, if_neg hd4]
      rw [show (value : Int) * 64 + 13 = ((value * 64 + 13 : Nat) : Int) by omega]
      exact .cons _ _ .nil
  · rintro h' t' m' n' S' ⟨fr, ln, vl, cl, uN, cF, hm', hn', hvl, ofr, oln⟩
    obtain rfl := hm'.symm
    obtain rfl := hn'.symm
    clear S₉ S₈ S₇ S₆ hl₇ hl₈ ol₇ ol₈
    generalize hFR : W.listOf #[Value.int (name : Nat) uN, .ref lk, .ref ln] cF = FR at S'
    generalize hLN : W.listOf vl cl = LN at S'
    generalize hmf : upd mm _ _ = mf at S'
    have fd₂ : mf (Str.ofString "deed") = some (.int (deed : Nat) ud) := by rw [← hmf]; exact fd'
    have fn₂ : mf (Str.ofString "name") = some (.int (name : Nat) un') := by rw [← hmf]; exact fn'
    have fv₂ : mf (Str.ofString "value") = some (.int (value : Nat) uv) := by rw [← hmf]; exact fv'
    have fp₂ : mf (Str.ofString "part") = some (.int (part : Nat) up) := by rw [← hmf]; exact fp'
    have fm₂ : mf (Str.ofString "marks") = some (.int (marks : Nat) um) := by rw [← hmf]; exact fm'
    have fr₂ : mf (Str.ofString "rows") = some (.ref lr) := by rw [← hmf]; exact fr'
    have fa₂ : mf (Str.ofString "alike") = some (.ref D₁) := by rw [← hmf]; exact fa'
    have fo₂ : mf (Str.ofString "others") = some (.ref D₂) := by rw [← hmf]; exact fo'
    have ft₂ : mf (Str.ofString "table") = m (Str.ofString "table") := by rw [← hmf]; exact ft'
    have fpl₂ : mf (Str.ofString "place") = m (Str.ofString "place") := by rw [← hmf]; exact fpl'
    have ff₂ : mf (Str.ofString "fresh") = some (.ref fr) := by rw [← hmf]; rfl
    clear hmf fd' fn' fv' fp' fm' fr' fa' fo' ft' fpl' fd fn fv fp fm frw
    have hsub0 : ∀ p ∈ (lst, lo) :: (L + 1, oc') :: (I, oI) :: (fr, FR) :: (ln, LN) :: (D₂, W.listOf ys₂ n₂) :: (D₁, W.listOf ys₁ n₁) :: (lk, W.listOf vk ck) :: rest, p ∈ (fr, FR) :: (ln, LN) :: B0 := by
      rintro p (_ | ⟨_, _ | ⟨_, _ | ⟨_, _ | ⟨_, _ | ⟨_, _ | ⟨_, _ | ⟨_, _ | ⟨_, hp⟩⟩⟩⟩⟩⟩⟩⟩)
      · exact .tail _ (.tail _ mlst)
      · exact .tail _ (.tail _ mcell)
      · exact .tail _ (.tail _ mI)
      · exact .head _
      · exact .tail _ (.head _)
      · exact .tail _ (.tail _ mD₂)
      · exact .tail _ (.tail _ mD₁)
      · exact .tail _ (.tail _ mlk)
      · exact .tail _ (.tail _ (mrest p hp))
    have hsep0 : Sep [lst, L + 1, I] ((fr, FR) :: (ln, LN) :: (D₂, W.listOf ys₂ n₂) :: (D₁, W.listOf ys₁ n₁) :: (lk, W.listOf vk ck) :: rest) := .cons ofr (.cons oln (.cons oD₂ (.cons oD₁ (.cons olk hsep))))
    generalize hR0 : (fr, FR) :: (ln, LN) :: (D₂, W.listOf ys₂ n₂) :: (D₁, W.listOf ys₁ n₁) :: (lk, W.listOf vk ck) :: rest = R0 at hsub0 hsep0
    have r_sub : ∀ p ∈ rest, p ∈ R0 := by rw [← hR0]; exact fun p hp => .tail _ <| .tail _ <| .tail _ <| .tail _ <| .tail _ hp
    have r_D₂ : (D₂, W.listOf ys₂ n₂) ∈ R0 := by rw [← hR0]; walk_at "MEM"
    have r_D₁ : (D₁, W.listOf ys₁ n₁) ∈ R0 := by rw [← hR0]; walk_at "MEM"
    have r_fresh : LRowAt R0 (.ref fr) (freshL deed name value part marks) := by
      rw [← hR0]
      exact ⟨fr, uN, lk, ln, cF, rfl, by show (fr, W.listOf #[Value.int (name : Nat) uN, .ref lk, .ref ln] cF) ∈ _; rw [hFR]; exact .head _, ⟨vk, ck, by walk_at "MEM", hik⟩, ⟨vl, cl, by rw [hLN]; walk_at "MEM", hvl⟩⟩
    have r_lk : (lk, W.listOf vk ck) ∈ R0 := by rw [← hR0]; walk_at "MEM"
    clear hR0 hFR hLN
    exact next h' t' mf R0 oc' lk vk ck fr D₁ ys₁ n₁ D₂ ys₂ n₂ (S'.sub hsub0) hsep0 r_sub hoc' r_lk hik r_D₁ (hy₁.mono r_sub) r_D₂ (hy₂.mono r_sub) r_fresh fr₂ fa₂ fo₂ ff₂ ⟨⟨_, fd₂⟩, ⟨_, fn₂⟩, ⟨_, fv₂⟩, ⟨_, fp₂⟩, ⟨_, fm₂⟩⟩ ft₂ fpl₂
end
noncomputable section
theorem turnC : ∀ (w : World) {oc : Value} {od : Option Addr} {osl : Array (Option Value)} {fname qual : Str} {params : Arguments} {body : List Stmt} {scope : Scope} {dV kV doc pm cdv ct : Value} {an : Option Addr}
    (ho : (hd.heap_39 w.params).lookup 234 = some ⟨oc, od, .func (fnX fname qual params body scope [] dV kV doc pm an cdv ct), osl⟩)
    {ftgt fit : Expr} {fbody : List Stmt} {felse : List Stmt} {fpos : Pos} (hb : body[3]? = some (.For ftgt fit fbody felse fpos))
    {fa : Addr} {cd : Value} {p : Program} {loose : List Str} {mean : ExcName → Option Value} {mg mb : Str → Option Value} {dp un : Nat} {gd : Option (List Code)} {L : Addr} {A₀ : Around} {g : Heap} {mf : Str → Option Value} {s : Shared} {h : Heap} {t : Nat} {Q : Flow → Shared → Prop} {E : Value → Shared → Prop}
    {lst I : Addr} {lo oc' oI : Obj} {R0 : List (Addr × Obj)} {deed name value part marks : Nat} {lr : Addr} {vr : Array Value} {cr : Nat} {rows : List LRow} {lk : Addr} {vk : Array Value} {ck : Nat} {fr D₁ : Addr} {ys₁ : Array Value} {n₁ : Nat} {D₂ : Addr} {ys₂ : Array Value} {n₂ : Nat},
    Cx w p loose mean mg mb scope [] A₀ g g → St g L mf ((lst, lo) :: (L + 1, oc') :: (I, oI) :: R0) h → Sep [lst, L + 1, I] R0 → oc'.data = .cell (some (.ref lk)) → (lk, W.listOf vk ck) ∈ R0 → IntsAre vk.toList (iz (kindL name)) →
    (D₁, W.listOf ys₁ n₁) ∈ R0 → LTab R0 ys₁ (alikeL rows name) → (D₂, W.listOf ys₂ n₂) ∈ R0 → LTab R0 ys₂ (othersL rows name) → LRowAt R0 (.ref fr) (freshL deed name value part marks) →
    mf (Str.ofString "rows") = some (.ref lr) → mf (Str.ofString "alike") = some (.ref D₁) → mf (Str.ofString "others") = some (.ref D₂) → mf (Str.ofString "fresh") = some (.ref fr) →
    (lr, W.listOf vr cr) ∈ R0 → LTab R0 vr rows → RowsOk rows → rows.length ≤ 10 → NumsAt mf deed name value part marks → Rng deed name value part marks → dp + 10 < recursionLimit → un + 200 < cLine →
    (∀ h' t' m' rest' dv lr' vr' cr', St g L m' ((lst, lo) :: (L + 1, oc') :: (I, oI) :: rest') h' → Sep [lst, L + 1, I] rest' → (∀ p ∈ R0, p ∈ rest') → m' (Str.ofString "rows") = some (.ref lr') →
      (lr', W.listOf vr' cr') ∈ rest' → LTab rest' vr' (stepL rows deed name value part marks).2 → m' (Str.ofString "due") = some dv → Is rest' dv (stepL rows deed name value part marks).1 →
      NumsAt m' deed name value part marks → m' (Str.ofString "table") = mf (Str.ofString "table") → m' (Str.ofString "place") = mf (Str.ofString "place") →
      wpAny (model PySem.Challenge.rw_pm0042_01.row.prog w) (ktrTop dp un gd qual scope L fa cd (cellsFrom (L + 1) scope.names []) []) (execs (fbody.drop 16) (envX qual scope L fa cd (cellsFrom (L + 1) scope.names []))) Q E (sh s h' t')) →
    wpAny (model PySem.Challenge.rw_pm0042_01.row.prog w) (ktrTop dp un gd qual scope L fa cd (cellsFrom (L + 1) scope.names []) []) (execs (fbody.drop 14) (envX qual scope L fa cd (cellsFrom (L + 1) scope.names []))) Q E (sh s h t) := by
  intro w oc od osl fname qual params body scope dV kV doc pm cdv ct an ho ftgt fit fbody felse fpos hb fa cd p loose mean mg mb dp un gd L A₀ g mf s h t Q E lst I lo oc' oI R0 deed name value part marks lr vr cr rows lk vk ck fr D₁ ys₁ n₁ D₂ ys₂ n₂ C S hsep hoc' r_lk hik r_D₁ hy₁ r_D₂ hy₂ r_fresh fr₂ fa₂ fo₂ ff₂ r_lr hLT hok hrl hnums hrng hd hu next
  have key : ∀ {X : Obj}, (_root_.hd.heap_39 w.params).lookup 234 = some X → some X = some (⟨oc, od, .func (fnX fname qual params body scope [] dV kV doc pm an cdv ct), osl⟩ : Obj) := fun h => h.symm.trans ho
  have e := key (by k_is)
  cases e
  clear key ho
  have hb := Option.some.inj hb
  cases hb
  simp only [List.drop_succ_cons, List.drop_zero]
  obtain ⟨⟨ud, fd₂⟩, ⟨un', fn₂⟩, ⟨uv, fv₂⟩, ⟨up, fp₂⟩, ⟨um, fm₂⟩⟩ := id hnums
  obtain ⟨rd, rn, rv, rp, rm⟩ := hrng
  have hhas : Has [lst, L + 1, I] ((lst, lo) :: (L + 1, oc') :: (I, oI) :: R0) := .one (.head _) (.one (.tail _ (.head _)) (.one (.tail _ (.tail _ (.head _))) .nil))
  have up3 : ∀ p ∈ R0, p ∈ (lst, lo) :: (L + 1, oc') :: (I, oI) :: R0 := fun p hp => .tail _ (.tail _ (.tail _ hp))
  obtain ⟨BB, hBB⟩ : ∃ B, B = (lst, lo) :: (L + 1, oc') :: (I, oI) :: R0 := ⟨_, rfl⟩
  have mcell : (L + 1, oc') ∈ BB := by rw [hBB]; exact .tail _ (.head _)
  have mlst : (lst, lo) ∈ BB := by rw [hBB]; exact .head _
  have mI : (I, oI) ∈ BB := by rw [hBB]; exact .tail _ (.tail _ (.head _))
  have b_lk := up3 _ r_lk
  have b_D₁ := up3 _ r_D₁
  have b_D₂ := up3 _ r_D₂
  have b_lr := up3 _ r_lr
  rw [← hBB] at S hhas up3 b_lk b_D₁ b_D₂ b_lr
  walk_at "S1"
  have S₁ := ‹St g L (upd mf _ _) _ _›
  generalize hm1 : upd mf _ _ = m₁ at S₁
  have gd : m₁ (Str.ofString "deed") = some (.int (deed : Nat) ud) := by rw [← hm1]; exact fd₂
  have gn : m₁ (Str.ofString "name") = some (.int (name : Nat) un') := by rw [← hm1]; exact fn₂
  have gv : m₁ (Str.ofString "value") = some (.int (value : Nat) uv) := by rw [← hm1]; exact fv₂
  have gp : m₁ (Str.ofString "part") = some (.int (part : Nat) up) := by rw [← hm1]; exact fp₂
  have gm : m₁ (Str.ofString "marks") = some (.int (marks : Nat) um) := by rw [← hm1]; exact fm₂
  have gr : m₁ (Str.ofString "rows") = some (.ref lr) := by rw [← hm1]; exact fr₂
  have ga : m₁ (Str.ofString "alike") = some (.ref D₁) := by rw [← hm1]; exact fa₂
  have go : m₁ (Str.ofString "others") = some (.ref D₂) := by rw [← hm1]; exact fo₂
  have gf : m₁ (Str.ofString "fresh") = some (.ref fr) := by rw [← hm1]; exact ff₂
  have gt : m₁ (Str.ofString "table") = mf (Str.ofString "table") := by rw [← hm1]; rfl
  have gpl : m₁ (Str.ofString "place") = mf (Str.ofString "place") := by rw [← hm1]; rfl
  have gdue : m₁ (Str.ofString "due") = some .none := by rw [← hm1]; rfl
  clear hm1 fd₂ fn₂ fv₂ fp₂ fm₂ fr₂ fa₂ fo₂ ff₂ S hnums
  have hrefI : ∀ (n : List (Addr × Obj)) (u : Tok), Is n (.str (Str.ofString "refused") u) .ref := fun n u => by rw [refused_so]; exact ⟨_, rfl⟩
  have hz0 : vr.size ≤ 10 := by rw [hLT.size]; exact hrl
  have hz2 : ys₂.size ≤ 10 := by
    rw [hy₂.size]
    exact Nat.le_trans (List.length_filter_le _ _) hrl
  refine x_ifJ (g := g) (L := L) (fun m' n' => ∃ rest' dv lr' vr' cr', n' = (lst, lo) :: (L + 1, oc') :: (I, oI) :: rest' ∧ Sep [lst, L + 1, I] rest' ∧ (∀ p ∈ R0, p ∈ rest') ∧ m' (Str.ofString "rows") = some (.ref lr') ∧
    (lr', W.listOf vr' cr') ∈ rest' ∧ LTab rest' vr' (stepL rows deed name value part marks).2 ∧ m' (Str.ofString "due") = some dv ∧ Is rest' dv (stepL rows deed name value part marks).1 ∧
    NumsAt m' deed name value part marks ∧ m' (Str.ofString "table") = mf (Str.ofString "table") ∧ m' (Str.ofString "place") = mf (Str.ofString "place")) ?_ ?_
  · walk_at "V"
    refine e_cell (v := .ref lk) S₁ (c := L + 1) (o := oc') rfl mcell hoc' rfl rfl (by decide) ?_
    refine o_inI (k := 63) S₁ b_lk hik ?_
    walk_at "V"
    refine ⟨fun hb => ?_, fun hb => ?_⟩
    · have h63 : 63 ∈ kindL name := of_decide_eq_true hb
      walk_at "V"
      have S₂ := ‹St g L (upd m₁ _ _) _ _›
      rw [hBB] at S₂
      have e : stepL rows deed name value part marks = (.ref, rows) := by rw [stepL, if_pos h63]
      rw [e]
      exact ⟨rfl, _, _, _, _, rfl, S₂, R0, _, lr, vr, cr, rfl, hsep, fun p hp => hp, gr, r_lr, hLT, rfl, hrefI _ _, ⟨⟨_, gd⟩, ⟨_, gn⟩, ⟨_, gv⟩, ⟨_, gp⟩, ⟨_, gm⟩⟩, gt, gpl⟩
    · have h63 : 63 ∉ kindL name := of_decide_eq_false hb
      walk_at "V"
      refine ⟨fun hb => ?_, fun hb => ?_⟩
      · have h1 : deed = 1 := by have := eq_of_beq hb; omega
        walk_at "V"
        have S₂ := ‹St g L (upd m₁ _ _) _ _›
        rw [hBB] at S₂
        have e : stepL rows deed name value part marks = (.non, othersL rows name) := by rw [stepL, if_neg h63, if_pos h1]
        rw [e]
        exact ⟨rfl, _, _, _, _, rfl, S₂, R0, _, D₂, ys₂, n₂, rfl, hsep, fun p hp => hp, rfl, r_D₂, hy₂, gdue, rfl, ⟨⟨_, gd⟩, ⟨_, gn⟩, ⟨_, gv⟩, ⟨_, gp⟩, ⟨_, gm⟩⟩, gt, gpl⟩
      · have h1 : deed ≠ 1 := by have := ne_of_beq_false hb; omega
        walk_at "VJ"
        refine x_if (wpAny_mono (Q := fun b s₂ => ∃ h' t', s₂ = sh s h' t' ∧ St g L m₁ BB h' ∧ (b = true ↔ (deed = 2 ∧ alikeL rows name ≠ []))) ?_ (fun b s₂ q => ?_) fun _ _ x => x)
        · walk_at "V"
          refine ⟨fun hb => ?_, fun hb => ?_⟩
          · have h2 : deed = 2 := by have := eq_of_beq hb; omega
            walk_at "V"
            rename_i l₃ h₃ hl₃ S₃
            refine o_neNil S₃ (.tail _ b_D₁) (.head _) (by show un < _; omega) ?_
            have hys := hy₁.size
            walk_at "V"
            refine ⟨fun hb => ?_, fun hb => ?_⟩
            · walk_at "V"
              refine ⟨_, _, rfl, S₃.sub fun p hp => .tail _ hp, fun _ => ⟨h2, fun e => ?_⟩, fun _ => rfl⟩
              rw [e] at hys
              rw [hys] at hb
              exact absurd hb (by decide)
            · refine ⟨_, _, rfl, S₃.sub fun p hp => .tail _ hp, fun h => absurd h Bool.false_ne_true, fun h => absurd ?_ h.2⟩
              have : ys₁.size = 0 := by simpa using hb
              rw [hys] at this
              exact List.length_eq_zero_iff.mp this
          · have h2 : deed ≠ 2 := by have := ne_of_beq_false hb; omega
            exact ⟨_, _, rfl, S₁, fun h => absurd h Bool.false_ne_true, fun h => absurd h.1 h2⟩
        obtain ⟨h', t', rfl, S₂, hb⟩ := q
        clear S₁
        refine ⟨fun hbt => ?_, fun hbf => ?_⟩
        · have h2 := hb.mp hbt
          obtain ⟨r0, rs, hal⟩ : ∃ r0 rs, alikeL rows name = r0 :: rs := List.exists_cons_of_ne_nil h2.2
          have e : stepL rows deed name value part marks = (.txt (valOf r0), rows) := by rw [stepL, if_neg h63, if_neg h1, if_pos h2, hal]; rfl
          have hmem : r0 ∈ rows := by
            have : r0 ∈ alikeL rows name := by rw [hal]; exact .head _
            exact (List.mem_filter.mp this).1
          obtain ⟨_, _, k20, klt⟩ := hok r0 hmem
          have hys := hy₁.size
          rw [hal] at hys
          have h0s : 0 < ys₁.size := by rw [hys]; exact Nat.succ_pos _
          obtain ⟨r, hr, ta, ua, lka, lna, ca, hva, hta, _, hna⟩ := hy₁.at_ (i := 0) (v := ys₁[0]) (Array.getElem?_eq_getElem h0s)
          rw [hal] at hr
          obtain rfl := Option.some.inj hr
          walk_at "V"
          refine i_list (k := 0) (x := .ref ta) S₂ b_D₁ (by rw [Array.getElem?_eq_getElem h0s, hva]) (by decide) (by with_unfolding_all rfl) (fun _ => rfl) ?_
          walk_at "V"
          refine i_listT (k := 2) (x := .ref lna) S₂ (up3 _ hta) rfl (by decide) (by with_unfolding_all rfl) ?_
          walk_at "V"
          have hb12 : ∀ n ∈ r0.nums, n < 64 ^ 12 := fun n hn => by have := klt n hn; omega
          have htl := textL_len r0.nums hb12
          refine text_fn w r0.nums (by omega) hb12 lna _ (hna.mono up3) C S₂ (by walk_at "RM") (by walk_at "RM") ?_
          rintro _ _ h₃ t₃ S₃ hk₃ hne₃ ⟨u₃, rfl, rfl⟩
          refine e_sliceU (g := g) (L := L) (m := m₁) (news := BB) (UnaryOp_ ?_)
          walk_at "V"
          refine neg_int ?_
          refine ⟨_, _, _, _, rfl, rfl, S₃, fun sl h₄ hsl S₄ => ?_⟩
          refine i_sliceS S₄ (.head _) (by omega) (by with_unfolding_all rfl) fun u' t' => ?_
          walk_at "V"
          have S₅ := (‹St g L (upd m₁ _ _) _ _›).sub (news' := BB) fun p hp => .tail _ hp
          rw [hBB] at S₅
          rw [e]
          exact ⟨rfl, _, _, _, _, rfl, S₅, R0, _, lr, vr, cr, rfl, hsep, fun p hp => hp, gr, r_lr, hLT, rfl, ⟨_, rfl⟩, ⟨⟨_, gd⟩, ⟨_, gn⟩, ⟨_, gv⟩, ⟨_, gp⟩, ⟨_, gm⟩⟩, gt, gpl⟩
        · have h2 : ¬ (deed = 2 ∧ alikeL rows name ≠ []) := fun h => absurd ((hb.mpr h).symm.trans hbf).symm Bool.false_ne_true
          walk_at "VJ"
          refine x_if (wpAny_mono (Q := fun b s₂ => ∃ h' t', s₂ = sh s h' t' ∧ St g L m₁ BB h' ∧ (b = true ↔ (value % 64 = 63 ∨ (deed = 4 ∧ 63 ∈ figs part)))) ?_ (fun b s₂ q => ?_) fun _ _ x => x)
          · walk_at "V"
            rw [show ((value : Nat) : Int).fmod 64 = ((value % 64 : Nat) : Int) from fmodN value 64]
            refine ⟨fun hb => ?_, fun hb => ?_⟩
            · exact ⟨_, _, rfl, S₂, fun _ => .inl (by have := eq_of_beq hb; omega), fun _ => rfl⟩
            · have n1 : ¬ value % 64 = 63 := by have := ne_of_beq_false hb; omega
              walk_at "V"
              refine ⟨fun hb => ?_, fun hb => ?_⟩
              · have h4 : deed = 4 := by have := eq_of_beq hb; omega
                walk_at "V"
                refine figures_fn w part (by omega) _ _ C S₂ (by walk_at "RM") (by walk_at "RM") ?_
                rintro _ _ h₃ t₃ S₃ hk₃ hne₃ ⟨l, vs, c, rfl, rfl, hi⟩
                refine o_inI (k := 63) S₃ (.head _) hi ?_
                walk_at "V"
                refine ⟨fun hb => ?_, fun hb => ?_⟩
                · walk_at "V"
                  refine ⟨fun _ => ?_, fun h => absurd h.symm Bool.false_ne_true⟩
                  exact ⟨_, _, rfl, S₃.sub fun p hp => .tail _ hp, fun _ => .inr ⟨h4, of_decide_eq_true hb⟩, fun _ => rfl⟩
                · refine ⟨fun h => absurd h Bool.false_ne_true, fun _ => ?_⟩
                  walk_at "V"
                  exact ⟨_, _, rfl, S₃.sub fun p hp => .tail _ hp, fun h => absurd h Bool.false_ne_true, fun h => h.elim (fun h => absurd h n1) fun h => absurd h.2 (of_decide_eq_false hb)⟩
              · have h4 : deed ≠ 4 := by have := ne_of_beq_false hb; omega
                refine ⟨fun h => absurd h Bool.false_ne_true, fun _ => ?_⟩
                walk_at "V"
                exact ⟨_, _, rfl, S₂, fun h => absurd h Bool.false_ne_true, fun h => h.elim (fun h => absurd h n1) fun h => absurd h.1 h4⟩
          obtain ⟨h', t', rfl, S₃, hb⟩ := q
          clear S₂
          refine ⟨fun hbt => ?_, fun hbf => ?_⟩
          · have h3 := hb.mp hbt
            walk_at "V"
            refine ⟨fun hb0 => ?_, fun hb0 => ?_⟩
            · have h0 : deed = 0 := by have := eq_of_beq hb0; omega
              walk_at "V"
              have S₄ := ‹St g L (upd (upd m₁ _ _) _ _) _ _›
              rw [hBB] at S₄
              have e : stepL rows deed name value part marks = (.ref, othersL rows name) := by rw [stepL, if_neg h63, if_neg h1, if_neg h2, if_pos h3, if_pos h0]
              rw [e]
              exact ⟨rfl, _, _, _, _, rfl, S₄, R0, _, D₂, ys₂, n₂, rfl, hsep, fun p hp => hp, rfl, r_D₂, hy₂, rfl, hrefI _ _, ⟨⟨_, gd⟩, ⟨_, gn⟩, ⟨_, gv⟩, ⟨_, gp⟩, ⟨_, gm⟩⟩, gt, gpl⟩
            · have h0 : deed ≠ 0 := by have := ne_of_beq_false hb0; omega
              walk_at "V"
              have S₄ := ‹St g L (upd m₁ _ _) _ _›
              rw [hBB] at S₄
              have e : stepL rows deed name value part marks = (.ref, rows) := by rw [stepL, if_neg h63, if_neg h1, if_neg h2, if_pos h3, if_neg h0]
              rw [e]
              exact ⟨rfl, _, _, _, _, rfl, S₄, R0, _, lr, vr, cr, rfl, hsep, fun p hp => hp, gr, r_lr, hLT, rfl, hrefI _ _, ⟨⟨_, gd⟩, ⟨_, gn⟩, ⟨_, gv⟩, ⟨_, gp⟩, ⟨_, gm⟩⟩, gt, gpl⟩
          · have h3 : ¬ (value % 64 = 63 ∨ (deed = 4 ∧ 63 ∈ figs part)) := fun h => absurd ((hb.mpr h).symm.trans hbf).symm Bool.false_ne_true
            walk_at "V"
            refine ⟨fun hb0 => ?_, fun hb0 => ?_⟩
            · have h0 : deed = 0 := by have := eq_of_beq hb0; omega
              walk_at "V"
              rename_i l₄ h₄ hl₄ S₄ a₅ h₅ ha₅ S₅ h₆ t₆ S₆
              have e : stepL rows deed name value part marks = (.non, othersL rows name ++ [freshL deed name value part marks]) := by rw [stepL, if_neg h63, if_neg h1, if_neg h2, if_neg h3, if_pos h0]
              rw [e]
              have T₇ : St g L _ ((lst, lo) :: (L + 1, oc') :: (I, oI) :: (a₅, _) :: R0) _ := S₆.sub (by
                rintro p (_ | ⟨_, _ | ⟨_, _ | ⟨_, _ | ⟨_, hp⟩⟩⟩⟩)
                · exact .tail _ (.tail _ mlst)
                · exact .tail _ (.tail _ mcell)
                · exact .tail _ (.tail _ mI)
                · exact .head _
                · exact .tail _ (.tail _ (up3 p hp)))
              exact ⟨rfl, _, _, _, _, rfl, T₇, _, _, a₅, _, _, rfl, .cons (off_lt hhas.cons ha₅) hsep, fun p hp => .tail _ hp, rfl, .head _, paired_app (hy₂.mono fun p hp => .tail _ hp) (.cons (r_fresh.mono fun p hp => .tail _ hp) .nil), gdue, rfl, ⟨⟨_, gd⟩, ⟨_, gn⟩, ⟨_, gv⟩, ⟨_, gp⟩, ⟨_, gm⟩⟩, gt, gpl⟩
            · have h0 : deed ≠ 0 := by have := ne_of_beq_false hb0; omega
              walk_at "V"
              rename_i l₄ h₄ hl₄ S₄ a₅ h₅ ha₅ S₅ h₆ t₆ S₆ u₆ t₇
              refine ⟨fun hb2 => ?_, fun hb2 => ?_⟩
              · have h2' : deed = 2 := by have := eq_of_beq hb2; omega
                have e : stepL rows deed name value part marks = (.txt (wordL value), rows ++ [freshL deed name value part marks]) := by rw [stepL, if_neg h63, if_neg h1, if_neg h2, if_neg h3, if_neg h0, if_pos h2']
                rw [e]
                walk_at "V"
                refine word_fn w value (by omega) _ _ C S₆ (by walk_at "RM") (by walk_at "RM") ?_
                rintro _ _ h₇ t₇ S₇ _ _ ⟨u₇, rfl, rfl⟩
                walk_at "V"
                have S₈ := ‹St g L (upd (upd m₁ _ _) _ _) _ _›
                have T₉ : St g L _ ((lst, lo) :: (L + 1, oc') :: (I, oI) :: (a₅, _) :: R0) _ := S₈.sub (by
                  rintro p (_ | ⟨_, _ | ⟨_, _ | ⟨_, _ | ⟨_, hp⟩⟩⟩⟩)
                  · exact .tail _ (.tail _ mlst)
                  · exact .tail _ (.tail _ mcell)
                  · exact .tail _ (.tail _ mI)
                  · exact .head _
                  · exact .tail _ (.tail _ (up3 p hp)))
                exact ⟨rfl, _, _, _, _, rfl, T₉, _, _, a₅, _, _, rfl, .cons (off_lt hhas.cons ha₅) hsep, fun p hp => .tail _ hp, rfl, .head _, paired_app (hLT.mono fun p hp => .tail _ hp) (.cons (r_fresh.mono fun p hp => .tail _ hp) .nil), rfl, ⟨_, rfl⟩, ⟨⟨_, gd⟩, ⟨_, gn⟩, ⟨_, gv⟩, ⟨_, gp⟩, ⟨_, gm⟩⟩, gt, gpl⟩
              · have h2' : deed ≠ 2 := by have := ne_of_beq_false hb2; omega
                have e : stepL rows deed name value part marks = (.non, rows ++ [freshL deed name value part marks]) := by rw [stepL, if_neg h63, if_neg h1, if_neg h2, if_neg h3, if_neg h0, if_neg h2']
                rw [e]
                walk_at "V"
                have T₉ : St g L _ ((lst, lo) :: (L + 1, oc') :: (I, oI) :: (a₅, _) :: R0) _ := S₆.sub (by
                  rintro p (_ | ⟨_, _ | ⟨_, _ | ⟨_, _ | ⟨_, hp⟩⟩⟩⟩)
                  · exact .tail _ (.tail _ mlst)
                  · exact .tail _ (.tail _ mcell)
                  · exact .tail _ (.tail _ mI)
                  · exact .head _
                  · exact .tail _ (.tail _ (up3 p hp)))
                exact ⟨rfl, _, _, _, _, rfl, T₉, _, _, a₅, _, _, rfl, .cons (off_lt hhas.cons ha₅) hsep, fun p hp => .tail _ hp, rfl, .head _, paired_app (hLT.mono fun p hp => .tail _ hp) (.cons (r_fresh.mono fun p hp => .tail _ hp) .nil), gdue, rfl, ⟨⟨_, gd⟩, ⟨_, gn⟩, ⟨_, gv⟩, ⟨_, gp⟩, ⟨_, gm⟩⟩, gt, gpl⟩
  · rintro h' t' m' n' S' ⟨rest', dv, lr', vr', cr', rfl, k1, k2, k3, k4, k5, k6, k7, k8, k9, k10⟩
    exact next h' t' m' rest' dv lr' vr' cr' S' k1 k2 k3 k4 k5 k6 k7 k8 k9 k10
end
noncomputable section
theorem word_len2 (n : Nat) (h : n < 4096) : (wordL n).length ≤ 2 := wordL_len 2 n h
theorem quote_rng (part marks : Nat) : ∀ c ∈ wordL part ++ List.replicate marks 34, 33 ≤ c ∧ c < 128 := by
  intro c hc
  rcases List.mem_append.mp hc with hc | hc
  · exact word_rng part c hc
  · have := List.eq_of_mem_replicate hc
    omega
theorem turnD : ∀ (w : World) {oc : Value} {od : Option Addr} {osl : Array (Option Value)} {fname qual : Str} {params : Arguments} {body : List Stmt} {scope : Scope} {dV kV doc pm cdv ct : Value} {an : Option Addr}
    (ho : (hd.heap_39 w.params).lookup 234 = some ⟨oc, od, .func (fnX fname qual params body scope [] dV kV doc pm an cdv ct), osl⟩)
    {ftgt fit : Expr} {fbody : List Stmt} {felse : List Stmt} {fpos : Pos} (hb : body[3]? = some (.For ftgt fit fbody felse fpos))
    {fa : Addr} {cd : Value} {p : Program} {loose : List Str} {mean : ExcName → Option Value} {mg mb : Str → Option Value} {dp un : Nat} {gd : Option (List Code)} {L : Addr} {A₀ : Around} {g : Heap} {m : Str → Option Value} {s : Shared} {h : Heap} {t : Nat} {Q : Flow → Shared → Prop} {E : Value → Shared → Prop}
    {lst I : Addr} {oc' oI : Obj} {cv : Option Value} {arr : Array Value} {na : Nat} {R : List (Addr × Obj)} {deed name value part marks : Nat} {rows : List LRow} {dv : Value} {x dx : Addr} {hv : Int} {tk : Tok} {nd : Nat},
    Cx w p loose mean mg mb scope [] A₀ g g → St g L m ((lst, W.listOf arr na) :: (L + 1, oc') :: (I, oI) :: R) h → Sep [lst, L + 1, I] R → lst ≠ L + 1 → I ≠ L + 1 → lst ≠ I → oc'.data = .cell cv → oI.cls = .type "list_iterator" →
    (x, instObj 182 dx) ∈ R → (dx, hdD hv tk lst nd) ∈ R → Tab R arr (rows.map kvOf) → rows.length ≤ 10 → RowsOk rows → m (Str.ofString "table") = some (.ref x) → m (Str.ofString "due") = some dv → Is R dv (stepL rows deed name value part marks).1 →
    NumsAt m deed name value part marks → Rng deed name value part marks → dp + 10 < recursionLimit → un + 200 < cLine →
    (∀ h' t' m' R' arr' n' v, St g L m' ((lst, W.listOf arr' n') :: (L + 1, oc') :: (I, oI) :: R') h' → Sep [lst, L + 1, I] R' → (∀ p ∈ R, p ∈ R') → Tab R' arr' ((stepL rows deed name value part marks).2.map kvOf) → m' = upd m (Str.ofString "text") v →
      wpAny (model PySem.Challenge.rw_pm0042_01.row.prog w) (ktrTop dp un gd qual scope L fa cd (cellsFrom (L + 1) scope.names []) []) (execs (fbody.drop 18) (envX qual scope L fa cd (cellsFrom (L + 1) scope.names []))) Q E (sh s h' t')) →
    wpAny (model PySem.Challenge.rw_pm0042_01.row.prog w) (ktrTop dp un gd qual scope L fa cd (cellsFrom (L + 1) scope.names []) []) (execs (fbody.drop 16) (envX qual scope L fa cd (cellsFrom (L + 1) scope.names []))) Q E (sh s h t) := by
  intro w oc od osl fname qual params body scope dV kV doc pm cdv ct an ho ftgt fit fbody felse fpos hb fa cd p loose mean mg mb dp un gd L A₀ g m s h t Q E lst I oc' oI cv arr na R deed name value part marks rows dv x dx hv tk nd C S hsep hlc hIc hlI hoc hoI hx hdx hT hrl hok ft fdue his hnums hrng hd hu next
  have key : ∀ {X : Obj}, (_root_.hd.heap_39 w.params).lookup 234 = some X → some X = some (⟨oc, od, .func (fnX fname qual params body scope [] dV kV doc pm an cdv ct), osl⟩ : Obj) := fun h => h.symm.trans ho
  have e := key (by k_is)
  cases e
  clear key ho
  have hb := Option.some.inj hb
  cases hb
  simp only [List.drop_succ_cons, List.drop_zero]
  obtain ⟨⟨ud, fd⟩, ⟨un', fn⟩, ⟨uv, fv⟩, ⟨up, fp⟩, ⟨um, fm⟩⟩ := id hnums
  obtain ⟨rd, rn, rv, rp, rm⟩ := hrng
  walk_at "S1"
  refine word_fn w part (by omega) _ _ C S (by walk_at "RM") (by walk_at "RM") ?_
  rintro _ _ h₁ t₁ S₁ _ _ ⟨u₁, rfl, rfl⟩
  walk_at "VS"
  rw [quote_so]
  refine o_mulS (l := [34]) (n := marks) (by decide) (by omega) fun u₂ t₂ => ?_
  rw [rep_flat]
  have hwp := word_len2 part rp
  refine o_adds (by rw [List.length_replicate, sizeLine_eq]; omega) fun u₃ t₃ => ?_
  walk_at "VS"
  have S₂ := ‹St g L (upd m _ _) _ _›
  clear S₁ S
  walk_at "V"
  refine word_fn w name (by omega) _ _ C S₂ (by walk_at "RM") (by walk_at "RM") ?_
  rintro _ _ h₃ t₃ S₃ _ _ ⟨u₄, rfl, rfl⟩
  walk_at "V"
  refine word_fn w value (by omega) _ _ C S₃ (by walk_at "RM") (by walk_at "RM") ?_
  rintro _ _ h₄ t₄ S₄ _ _ ⟨u₅, rfl, rfl⟩
  walk_at "V"
  have hwn := word_len2 name rn
  have hwv := wordL_len 3 value (by omega)
  have hlst : ∀ p ∈ (L + 1, oc') :: (I, oI) :: R, p.1 ≠ lst := by
    rintro p (_ | ⟨_, _ | ⟨_, hp⟩⟩)
    · exact Ne.symm hlc
    · exact Ne.symm hlI
    · exact hsep.ne (.head _) p hp
  have hkv : ∀ kv ∈ rows.map kvOf, kv.1.length ≤ 1000 ∧ ∀ c ∈ kv.1, c < 128 := by
    intro kv hkv
    obtain ⟨r, hr, rfl⟩ := List.mem_map.mp hkv
    refine ⟨?_, fun c hc => (word_rng r.name c hc).2⟩
    have := word_len2 r.name (hok r hr).name
    show (wordL r.name).length ≤ 1000
    omega
  refine lcall_any w deed rd x dx lst hv tk nd (wordL name) (word_rng name) (by omega) _ (wordL value) (word_rng value) (by omega) _ (wordL part ++ List.replicate marks 34) (quote_rng part marks) (by simp; omega) _ _ arr na (rows.map kvOf) ((L + 1, oc') :: (I, oI) :: R)
    (.tail _ (.tail _ hx)) (.tail _ (.tail _ hdx)) hlst (hT.mono fun p hp => .tail _ (.tail _ hp)) (by rw [List.length_map]; omega) hkv C S₄ (by walk_at "RM") (by walk_at "RM") ?_
  rintro v news' h₅ t₅ S₅ ⟨hisv, arr', n', tl, rfl, htl, htab⟩
  rw [run_step rows deed name value part marks rd rv] at hisv htab
  walk_at "V"
  refine ne_ans S₅ hisv (his.mono ?_) ?_ (by show un + 64 < _; omega) ?_
  · exact fun p hp => .tail _ (List.mem_append_right _ (.tail _ (.tail _ hp)))
  · intro ls hls
    exfalso
    dsimp only at hls
    unfold stepL at hls
    repeat' (split at hls)
    all_goals cases hls
  walk_at "V"
  refine ⟨fun hb => absurd hb Bool.false_ne_true, fun _ => ?_⟩
  refine next h₅ t₅ _ (pick [lst, L + 1, I] (tl ++ (L + 1, oc') :: (I, oI) :: R)) arr' n' _ (S₅.sub ?_) (sep_pick _ _) (fun p hp => mem_pick (List.mem_append_right _ (.tail _ (.tail _ hp))) (hsep p hp)) (htab.to fun t vs hm => mem_pick hm ?_) rfl
  · rintro p (_ | ⟨_, _ | ⟨_, _ | ⟨_, hp⟩⟩⟩)
    · exact .head _
    · exact .tail _ (List.mem_append_right _ (.head _))
    · exact .tail _ (List.mem_append_right _ (.tail _ (.head _)))
    · exact .tail _ (pick_sub p hp)
  · intro c hc
    rcases hc with _ | ⟨_, _ | ⟨_, _ | ⟨_, hc⟩⟩⟩
    · rcases List.mem_append.mp hm with hm | hm
      · exact htl _ hm
      · exact hlst _ hm
    · refine S₅.ne_of (.tail _ hm) (.tail _ (List.mem_append_right _ (.head _))) fun e => ?_
      rw [← e] at hoc
      cases hoc
    · refine S₅.ne_of (.tail _ hm) (.tail _ (List.mem_append_right _ (.tail _ (.head _)))) fun e => ?_
      rw [← e] at hoI
      have hoI' : Value.type "tuple" = Value.type "list_iterator" := hoI
      exact absurd hoI' (by decide)
    · cases hc
end
noncomputable section
theorem turnE : ∀ (w : World) {oc : Value} {od : Option Addr} {osl : Array (Option Value)} {fname qual : Str} {params : Arguments} {body : List Stmt} {scope : Scope} {dV kV doc pm cdv ct : Value} {an : Option Addr}
    (ho : (hd.heap_39 w.params).lookup 234 = some ⟨oc, od, .func (fnX fname qual params body scope [] dV kV doc pm an cdv ct), osl⟩)
    {ftgt fit : Expr} {fbody : List Stmt} {felse : List Stmt} {fpos : Pos} (hb : body[3]? = some (.For ftgt fit fbody felse fpos))
    {fa : Addr} {cd : Value} {p : Program} {loose : List Str} {mean : ExcName → Option Value} {mg mb : Str → Option Value} {dp un : Nat} {gd : Option (List Code)} {L : Addr} {A₀ : Around} {g : Heap} {m : Str → Option Value} {s : Shared} {h : Heap} {t : Nat} {Q : Flow → Shared → Prop} {E : Value → Shared → Prop}
    {lst I : Addr} {oc' oI : Obj} {arr : Array Value} {na : Nat} {R : List (Addr × Obj)} {rows : List LRow} {x dx : Addr} {hv : Int} {tk : Tok} {nd : Nat} {lr : Addr} {vr : Array Value} {cr : Nat},
    Cx w p loose mean mg mb scope [] A₀ g g → St g L m ((lst, W.listOf arr na) :: (L + 1, oc') :: (I, oI) :: R) h → Sep [lst, L + 1, I] R →
    (x, instObj 182 dx) ∈ R → (dx, hdD hv tk lst nd) ∈ R → Tab R arr (rows.map kvOf) → rows.length ≤ 11 → RowsOk rows → m (Str.ofString "table") = some (.ref x) → m (Str.ofString "rows") = some (.ref lr) → (lr, W.listOf vr cr) ∈ R → LTab R vr rows →
    dp + 10 < recursionLimit → un + 200 < cLine →
    (∀ h' t' m' hl hvv hc, St g L m' ((lst, W.listOf arr na) :: (L + 1, oc') :: (I, oI) :: (hl, W.listOf hvv hc) :: R) h' → Off [lst, L + 1, I] hl → IntsAre hvv.toList (iz (headL rows)) → m' (Str.ofString "head") = some (.ref hl) →
      m' (Str.ofString "table") = m (Str.ofString "table") → m' (Str.ofString "rows") = m (Str.ofString "rows") → m' (Str.ofString "place") = m (Str.ofString "place") → m' (Str.ofString "name") = m (Str.ofString "name") →
      wpAny (model PySem.Challenge.rw_pm0042_01.row.prog w) (ktrTop dp un gd qual scope L fa cd (cellsFrom (L + 1) scope.names []) []) (execs (fbody.drop 21) (envX qual scope L fa cd (cellsFrom (L + 1) scope.names []))) Q E (sh s h' t')) →
    (PassesOwn (model PySem.Challenge.rw_pm0042_01.row.prog w) (ktrTop dp un gd qual scope L fa cd (cellsFrom (L + 1) scope.names []) []) (envX qual scope L fa cd (cellsFrom (L + 1) scope.names [])) E) →
    wpAny (model PySem.Challenge.rw_pm0042_01.row.prog w) (ktrTop dp un gd qual scope L fa cd (cellsFrom (L + 1) scope.names []) []) (execs (fbody.drop 18) (envX qual scope L fa cd (cellsFrom (L + 1) scope.names []))) Q E (sh s h t) := by
  intro w oc od osl fname qual params body scope dV kV doc pm cdv ct an ho ftgt fit fbody felse fpos hb fa cd p loose mean mg mb dp un gd L A₀ g m s h t Q E lst I oc' oI arr na R rows x dx hv tk nd lr vr cr C S hsep hx hdx hT hrl hok ft frw hlr hLT hd hu next hpo
  have key : ∀ {X : Obj}, (_root_.hd.heap_39 w.params).lookup 234 = some X → some X = some (⟨oc, od, .func (fnX fname qual params body scope [] dV kV doc pm an cdv ct), osl⟩ : Obj) := fun h => h.symm.trans ho
  have e := key (by k_is)
  cases e
  clear key ho
  have hb := Option.some.inj hb
  cases hb
  simp only [List.drop_succ_cons, List.drop_zero]
  obtain ⟨BB, hBB⟩ : ∃ B, B = (lst, W.listOf arr na) :: (L + 1, oc') :: (I, oI) :: R := ⟨_, rfl⟩
  have hhas : Has [lst, L + 1, I] BB := by rw [hBB]; exact .one (.head _) (.one (.tail _ (.head _)) (.one (.tail _ (.tail _ (.head _))) .nil))
  have up3 : ∀ p ∈ R, p ∈ BB := by rw [hBB]; exact fun p hp => .tail _ (.tail _ (.tail _ hp))
  have b_lst : (lst, W.listOf arr na) ∈ BB := by rw [hBB]; exact .head _
  have b_lr := up3 _ hlr
  have b_x := up3 _ hx
  have b_dx := up3 _ hdx
  rw [← hBB] at S
  walk_at "S1"
  rename_i l₁ h₁ hl₁ S₁ h₂ t₂ S₂
  refine x_for (fun _ => rfl) ?_
  walk_at "VS"
  have hvr := hLT.size
  refine for_list (vs := vr) rfl rfl tgt_name S₂ (fun i m₁ n₁ => ∃ hl hvv hc, n₁ = (hl, W.listOf hvv hc) :: BB ∧ Off [lst, L + 1, I] hl ∧ IntsAre hvv.toList (iz (headL (rows.take i))) ∧ m₁ (Str.ofString "head") = some (.ref hl) ∧
    m₁ (Str.ofString "table") = m (Str.ofString "table") ∧ m₁ (Str.ofString "rows") = m (Str.ofString "rows") ∧ m₁ (Str.ofString "place") = m (Str.ofString "place") ∧ m₁ (Str.ofString "name") = m (Str.ofString "name")) ?h0 ?hl ?turn ?done hpo
  case h0 => exact ⟨l₁, _, _, rfl, off_lt hhas hl₁, .nil, rfl, rfl, rfl, rfl, rfl⟩
  case hl =>
    rintro i m₁ n₁ h₃ ⟨hl, hvv, hc, rfl, _⟩ S₃
    exact S₃.isList (.tail _ b_lr)
  case turn =>
    rintro i v m₁ n₁ h₃ t₃ I₂ oI₂ hv₂ ⟨hl, hvv, hc, rfl, ofh, hih, eh, et, er, ep, en⟩ hI₂ S₃
    obtain ⟨row, hri, hrw⟩ := hLT.at_ hv₂
    have hrok := hok row (List.mem_of_getElem? hri)
    obtain ⟨ta, ua, lka, lna, ca, rfl, hta, _, ⟨xn, cn, hna, hin⟩⟩ := hrw
    have b_ta := up3 _ hta
    have b_na := up3 _ hna
    have hz1 := IntsAre.sizeA hih
    have hz2 := headL_len (rows.take i) fun r hr => hok r (List.mem_of_mem_take hr)
    have hz3 : (rows.take i).length ≤ rows.length := List.length_take_le' ..
    have hz4 := IntsAre.sizeA hin
    have hz5 := hrok.len
    walk_at "V"
    have S₄ := ‹St g L (upd m₁ _ _) _ _›
    refine i_list (k := 0) (x := .int (row.name : Nat) ua) S₄ (.tail _ (.tail _ b_ta)) rfl (by decide) (by with_unfolding_all rfl) (fun _ => rfl) ?_
    walk_at "V"
    rename_i la h₅ hla S₅ aa h₆ haa S₆ u₆ t₆
    refine i_list (k := 2) (x := .ref lna) S₆ (.tail _ (.tail _ (.tail _ (.tail _ b_ta)))) rfl (by decide) (by with_unfolding_all rfl) (fun _ => rfl) ?_
    walk_at "V"
    rename_i ab h₇ hab S₇ u₈ t₈ lc h₈ hlc S₈ ad h₉ had S₉ h₁₀ t₁₀ S₁₀
    have T := S₁₀.sub (news' := (I₂, oI₂) :: (ad, _) :: BB) (by
      rintro p (_ | ⟨_, _ | ⟨_, hp⟩⟩)
      · exact .tail _ <| .tail _ <| .tail _ <| .tail _ <| .tail _ <| .head _
      · exact .head _
      · exact .tail _ <| .tail _ <| .tail _ <| .tail _ <| .tail _ <| .tail _ <| .tail _ hp)
    refine turn_next ((ad, _) :: BB) T (.head _) (fun p hp => .tail _ hp) ?_ ⟨ad, _, _, rfl, off_lt hhas.cons.cons.cons.cons.cons.cons had, ?_, rfl, et, er, ep, en⟩
    · rintro p (_ | ⟨_, hp⟩)
      · exact Ne.symm (Nat.ne_of_lt (had (I₂, oI₂) (.tail _ <| .tail _ <| .tail _ <| .tail _ <| .head _)))
      · exact hI₂ p (.tail _ hp)
    · rw [headL_take rows i row hri, rowNums, ← List.append_assoc, ← List.append_assoc, iz_append, iz_append, iz_append]
      rw [show ((row.name : Nat) : Int) * 64 + 58 = ((row.name * 64 + 58 : Nat) : Int) by omega]
      exact IntsAre.append (IntsAre.append (IntsAre.append hih (.cons _ _ (.cons _ _ .nil))) hin) (.cons _ _ .nil)
  case done =>
    rintro m₁ n₁ h₃ t₃ ⟨hl, hvv, hc, rfl, ofh, hih, eh, et, er, ep, en⟩ S₃
    rw [hvr, List.take_length] at hih
    have et' := et.trans ft
    have hends : ∀ r ∈ rows, Ends13 r := fun r hr => (hok r hr).ends
    have htt := table_text rows hends
    have hhl := headL_len rows hok
    have hlt := headL_lt rows hok
    have hlt' : ∀ n ∈ headL rows ++ [13, 10], n < 64 ^ 10 := by
      intro n hn
      rcases List.mem_append.mp hn with hn | hn
      · have := hlt n hn; omega
      · simp only [List.mem_cons, List.not_mem_nil, or_false] at hn; omega
    have hol := textL_len (headL rows ++ [13, 10]) fun n hn => by have := hlt' n hn; omega
    rw [← octs_text, List.length_append] at hol
    have hz1 := IntsAre.sizeA hih
    have hsl : (byL (strL (rows.map kvOf))).size = (octs (headL rows ++ [13, 10])).length := by rw [htt]; simp [byL]
    have hbi : KBw.bInts (byL (strL (rows.map kvOf))) = iz (octs (headL rows ++ [13, 10])) := by
      rw [htt]
      refine byL_ints _ fun c hc => ?_
      rw [octs_text] at hc
      have := textL_lt _ c hc
      omega
    have hkv : ∀ kv ∈ rows.map kvOf, kv.1.length ≤ 1000 ∧ kv.2.length ≤ 10000 ∧ (∀ c ∈ kv.1, c < 256) ∧ (∀ c ∈ kv.2, c < 256) := by
      intro kv hkv
      obtain ⟨r, hr, rfl⟩ := List.mem_map.mp hkv
      have h1 := word_len2 r.name (hok r hr).name
      have h2 := valOf_ok r (hok r hr)
      refine ⟨show (wordL r.name).length ≤ 1000 by omega, h2.1, fun c hc => ?_, fun c hc => ?_⟩
      · have := (word_rng r.name c hc).2; omega
      · have := h2.2 c hc; omega
    walk_at "V"
    refine e_comp (fun _ => true) (fun v y => y = v) (closureFor_none (by decide)) (by decide) rfl (by decide) rfl (fun _ => rfl) ?_
    walk_at "V"
    refine bytes_fn w x dx lst hv tk nd arr na (rows.map kvOf) _ (.tail _ b_x) (.tail _ b_dx) (.tail _ b_lst) (hT.mono fun p hp => .tail _ (up3 p hp)) (by rw [List.length_map]; omega) hkv C S₃ (by walk_at "RM") (by walk_at "RM") ?_
    rintro _ _ h₄ t₄ S₄ _ _ ⟨rfl, ub, rfl⟩
    refine ⟨_, _, rfl, ?_⟩
    refine comp_bytes rfl S₄ (by rw [hsl, sizeLine_eq]; simp at hol; omega) (fun C' v s' h₅ t₅ mC E' hn hm => ?_) ?_
    · walk_at "V"
      exact ⟨rfl, h₅, t₅, rfl, fun _ _ e => e⟩
    intro D h₅ t₅ ys nD S₅ hneD hiD
    rw [hbi] at hiD
    walk_at "V"
    refine read_fn w D ys nD (headL rows ++ [13, 10]) _ (.head _) hiD hlt' (by simp at hol; omega) C S₅ (by walk_at "RM") (by walk_at "RM") ?_
    rintro _ news' h₆ t₆ S₆ ⟨lr₂, rfl, ⟨vl₂, cl₂, hml₂, hil₂⟩, hsub⟩
    have m_hl : (hl, W.listOf hvv hc) ∈ news' := hsub _ (.tail _ (.head _))
    walk_at "V"
    rename_i l₇ h₇ hl₇ S₇ a₈ h₈ ha₈ S₈
    refine o_neI (ns := headL rows ++ [13, 10]) (ms := headL rows ++ [13, 10]) S₈ (.tail _ (.tail _ hml₂)) (.head _) hil₂ ?hj (by show un + 64 < _; omega) ?_
    case hj =>
      rw [iz_append]
      exact IntsAre.append hih (.cons _ _ (.cons _ _ .nil))
    rw [decide_eq_true rfl]
    walk_at "V"
    refine ⟨fun hb => absurd hb Bool.false_ne_true, fun _ => ?_⟩
    refine next h₈ _ m₁ hl hvv hc (S₈.sub ?_) ofh hih eh et er ep en
    rw [hBB] at hsub
    rintro p (_ | ⟨_, _ | ⟨_, _ | ⟨_, _ | ⟨_, hp⟩⟩⟩⟩)
    · exact .tail _ (.tail _ (hsub _ (by walk_at "MEM")))
    · exact .tail _ (.tail _ (hsub _ (by walk_at "MEM")))
    · exact .tail _ (.tail _ (hsub _ (by walk_at "MEM")))
    · exact .tail _ (.tail _ (hsub _ (by walk_at "MEM")))
    · exact .tail _ (.tail _ (hsub _ (.tail _ (.tail _ (.tail _ (.tail _ (.tail _ hp)))))))
end
noncomputable section
theorem paired_strs {α : Type} {R : Value → α → Prop} {f : α → Str} {l ys : List Value} {as : List α} (x : Paired R l as) (y : Paired (fun v y => ∀ a, R v a → ∃ u, y = .str (f a) u) l ys) : StrsAre ys (as.map f) := by
  induction x generalizing ys with
  | nil => cases y; exact .nil
  | cons h _ ih =>
    cases y with
    | cons h' r =>
      obtain ⟨u, rfl⟩ := h' _ h
      exact .cons _ _ (ih r)
theorem turnF : ∀ (w : World) {oc : Value} {od : Option Addr} {osl : Array (Option Value)} {fname qual : Str} {params : Arguments} {body : List Stmt} {scope : Scope} {dV kV doc pm cdv ct : Value} {an : Option Addr}
    (ho : (hd.heap_39 w.params).lookup 234 = some ⟨oc, od, .func (fnX fname qual params body scope [] dV kV doc pm an cdv ct), osl⟩)
    {ftgt fit : Expr} {fbody : List Stmt} {felse : List Stmt} {fpos : Pos} (hb : body[3]? = some (.For ftgt fit fbody felse fpos))
    {fa : Addr} {cd : Value} {p : Program} {loose : List Str} {mean : ExcName → Option Value} {mg mb : Str → Option Value} {dp un : Nat} {gd : Option (List Code)} {L : Addr} {A₀ : Around} {g : Heap} {m : Str → Option Value} {s : Shared} {h : Heap} {t : Nat} {Q : Flow → Shared → Prop} {E : Value → Shared → Prop}
    {lst I : Addr} {oc₁ oI : Obj} {cv : Option Value} {arr : Array Value} {na : Nat} {R : List (Addr × Obj)} {rows : List LRow} {x dx : Addr} {hv : Int} {tk : Tok} {nd : Nat} {lr : Addr} {vr : Array Value} {cr : Nat} {i name : Nat} {ui un' : Tok},
    Cx w p loose mean mg mb scope [] A₀ g g → St g L m ((lst, W.listOf arr na) :: (L + 1, oc₁) :: (I, oI) :: R) h → Sep [lst, L + 1, I] R → lst ≠ L + 1 → I ≠ L + 1 → lst ≠ I → oc₁.data = .cell cv → oI.cls = .type "list_iterator" →
    (x, instObj 182 dx) ∈ R → (dx, hdD hv tk lst nd) ∈ R → Tab R arr (rows.map kvOf) → rows.length ≤ 11 → RowsOk rows → m (Str.ofString "table") = some (.ref x) → m (Str.ofString "rows") = some (.ref lr) → m (Str.ofString "place") = some (.int (i : Nat) ui) → m (Str.ofString "name") = some (.int (name : Nat) un') →
    name < 4096 → (lr, W.listOf vr cr) ∈ R → LTab R vr rows → dp + 10 < recursionLimit → un + 200 < cLine →
    (∀ h' t' m' R' arr' n' oc' cv' u', St g L m' ((lst, W.listOf arr' n') :: (L + 1, oc') :: (I, oI) :: R') h' → oc'.data = .cell cv' → Sep [lst, L + 1, I] R' → (∀ p ∈ R, p ∈ R') → Tab R' arr' (rows.map kvOf) →
      m' (Str.ofString "table") = m (Str.ofString "table") → m' (Str.ofString "rows") = m (Str.ofString "rows") → m' (Str.ofString "head") = m (Str.ofString "head") → m' (Str.ofString "place") = some (.int ((i + 1 : Nat) : Int) u') → Q .next (sh s h' t')) →
    wpAny (model PySem.Challenge.rw_pm0042_01.row.prog w) (ktrTop dp un gd qual scope L fa cd (cellsFrom (L + 1) scope.names []) []) (execs (fbody.drop 21) (envX qual scope L fa cd (cellsFrom (L + 1) scope.names []))) Q E (sh s h t) := by
  intro w oc od osl fname qual params body scope dV kV doc pm cdv ct an ho ftgt fit fbody felse fpos hb fa cd p loose mean mg mb dp un gd L A₀ g m s h t Q E lst I oc₁ oI cv arr na R rows x dx hv tk nd lr vr cr i name ui un' C S hsep hlc hIc hlI hcell hoI hx hdx hT hrl hok ft frw fpl fnm hname hlr hLT hd hu next
  have key : ∀ {X : Obj}, (_root_.hd.heap_39 w.params).lookup 234 = some X → some X = some (⟨oc, od, .func (fnX fname qual params body scope [] dV kV doc pm an cdv ct), osl⟩ : Obj) := fun h => h.symm.trans ho
  have e := key (by k_is)
  cases e
  clear key ho
  have hb := Option.some.inj hb
  cases hb
  simp only [List.drop_succ_cons, List.drop_zero]
  walk_at "S1"
  rename_i l₁ h₁ hl₁ S₁ u₁ t₁ u₂ t₂
  rw [show ((i : Nat) : Int).fmod 3 = ((i % 3 : Nat) : Int) from fmodN i 3]
  refine i_listN (k := i % 3) (· < 4096) S₁ (.head _) ?hx3 (by omega) (by with_unfolding_all rfl) fun y uy hy => ?_
  case hx3 => rcases (by omega : i % 3 = 0 ∨ i % 3 = 1 ∨ i % 3 = 2) with h | h | h <;> rw [h] <;> exact ⟨_, _, rfl, by decide⟩
  walk_at "VS"
  have S₂ := (‹St g L (upd m _ _) _ _›).sub (news' := (lst, W.listOf arr na) :: (L + 1, oc₁) :: (I, oI) :: R) fun p hp => .tail _ hp
  rw [xor_nat] at S₂
  obtain ⟨asked, hask⟩ : ∃ a, a = name ^^^ y := ⟨_, rfl⟩
  have haskl : asked < 4096 := by rw [hask]; exact xor_lt hname hy
  rw [← hask] at S₂
  clear hask S₁ S
  generalize hmA : upd m _ _ = mA at S₂
  obtain ⟨uA, gas⟩ : ∃ u, mA (Str.ofString "asked") = some (.int (asked : Nat) u) := by rw [← hmA]; exact ⟨_, rfl⟩
  have gt : mA (Str.ofString "table") = m (Str.ofString "table") := by rw [← hmA]; rfl
  have gr : mA (Str.ofString "rows") = m (Str.ofString "rows") := by rw [← hmA]; rfl
  have gh : mA (Str.ofString "head") = m (Str.ofString "head") := by rw [← hmA]; rfl
  have gpl : mA (Str.ofString "place") = some (.int (i : Nat) ui) := by rw [← hmA]; exact fpl
  have gt' := gt.trans ft
  have gr' := gr.trans frw
  clear hmA
  walk_at "S1"
  refine kind_fn w asked (by omega) _ _ C S₂ (by walk_at "RM") (by walk_at "RM") ?_
  rintro _ _ h₃ t₃ S₃ hk₃ hne₃ ⟨lk, vk, ck, rfl, rfl, hik⟩
  have hhas : Has [lst, L + 1, I] ((lst, W.listOf arr na) :: (L + 1, oc₁) :: (I, oI) :: R) := .one (.head _) (.one (.tail _ (.head _)) (.one (.tail _ (.tail _ (.head _))) .nil))
  have olk := off_fn hhas hne₃
  have S₄ := S₃.sub (news' := (L + 1, oc₁) :: (lk, W.listOf vk ck) :: (lst, W.listOf arr na) :: (I, oI) :: R) (by
    rintro p (_ | ⟨_, _ | ⟨_, _ | ⟨_, _ | ⟨_, hp⟩⟩⟩⟩)
    · exact .tail _ (.tail _ (.head _))
    · exact .head _
    · exact .tail _ (.head _)
    · exact .tail _ (.tail _ (.tail _ (.head _)))
    · exact .tail _ (.tail _ (.tail _ (.tail _ hp))))
  clear S₃ S₂
  refine x_storeC S₄ ?hcN rfl hcell rfl rfl fun h₅ oc' S₅ hoc' => ?_
  case hcN =>
    rintro p (_ | ⟨_, _ | ⟨_, _ | ⟨_, hp⟩⟩⟩)
    · exact olk _ (.tail _ (.head _))
    · exact hlc
    · exact hIc
    · exact hsep.ne (.tail _ (.head _)) p hp
  refine x_compS (genP (LRowAt R) fun r => kindL r.name == kindL asked) (fun v y => ∀ r, LRowAt R v r → ∃ u, y = .str (so (valOf r)) u) rfl rfl (by decide) rfl (by decide) rfl rfl rfl (fun _ => rfl) ?_
  walk_at "VS"
  refine comp_listS rfl rfl S₅ (S₅.isList (.tail _ <| .tail _ <| .tail _ <| .tail _ <| hlr)) (by rw [sizeLine_eq, hLT.size]; omega) (fun C' i v s' h₄ t₄ mC E' hv S₄ hn hm => ?_) (fun C' i v s' h₄ t₄ mC E' hv hp S₄ hn hm => ?_) ?_
  · refine wpAny_tests_one ?_
    obtain ⟨row, hri, hrw⟩ := hLT.at_ hv
    rw [genP_eq (LRowAt.uniq (S₄.sub (news' := R) fun p hp => .tail _ <| .tail _ <| .tail _ <| .tail _ <| hp)) hrw]
    obtain ⟨ta, ua, lka, lna, ca, rfl, hta, ⟨xa, cka, hka, hika⟩, _⟩ := hrw
    walk_at "V"
    refine i_list (k := 1) (x := .ref lka) S₄ (.tail _ <| .tail _ <| .tail _ <| .tail _ <| hta) rfl (by decide) (by with_unfolding_all rfl) (fun _ => rfl) ?_
    refine e_cell (v := .ref lk) S₄ (c := L + 1) (o := oc') rfl (by walk_at "MEM") hoc' rfl rfl (by decide) ?_
    refine o_eqI S₄ (.tail _ <| .tail _ <| .tail _ <| .tail _ <| hka) (by walk_at "MEM") hika hik (by show un + 64 < _; omega) ?_
    walk_at "V"
    exact ⟨by rw [beq_dec], h₄, _, rfl, fun _ _ e => e⟩
  · obtain ⟨row, hri, hrw⟩ := hLT.at_ hv
    have huq := LRowAt.uniq (S₄.sub (news' := R) fun p hp => .tail _ <| .tail _ <| .tail _ <| .tail _ <| hp) v
    have hrw' := hrw
    have hrok := hok row (List.mem_of_getElem? hri)
    obtain ⟨ta, ua, lka, lna, ca, rfl, hta, _, hna⟩ := hrw
    have hb12 : ∀ n ∈ row.nums, n < 64 ^ 12 := fun n hn => by have := hrok.lt n hn; omega
    have htl := textL_len row.nums hb12
    have hl20 := hrok.len
    walk_at "V"
    refine i_list (k := 2) (x := .ref lna) S₄ (.tail _ <| .tail _ <| .tail _ <| .tail _ <| hta) rfl (by decide) (by with_unfolding_all rfl) (fun _ => rfl) ?_
    walk_at "V"
    refine text_fn w row.nums (by omega) hb12 lna _ (hna.mono fun p hp => .tail _ <| .tail _ <| .tail _ <| .tail _ <| hp) C S₄ (by walk_at "RM") (by walk_at "RM") ?_
    rintro _ _ h₅ t₅ S₅ hk₅ _ ⟨u₅, rfl, rfl⟩
    refine e_sliceK (g := g) (L := L) (m := mA) (news := (L + 1, oc') :: (lk, W.listOf vk ck) :: (lst, W.listOf arr na) :: (I, oI) :: R) (UnaryOp_ ?_)
    walk_at "V"
    refine neg_int ?_
    refine ⟨_, _, _, _, rfl, rfl, S₅, fun sl h₆ hsl S₆ hk₆ => ?_⟩
    refine i_sliceS S₆ (.head _) (by omega) (by with_unfolding_all rfl) fun u' t' => ?_
    exact ⟨fun r' hr' => ⟨u', by rw [huq r' row hr' hrw']; rfl⟩, h₆, t', rfl, fun b o e => hk₆ b o (hk₅ b o e)⟩
  intro D₁ h₆ t₆ ys₁ n₁ S₆ hne₆ hp₆
  have hy₁ := gen_filter (LRowAt.uniq (S₆.sub (news' := R) fun p hp => .tail _ <| .tail _ <| .tail _ <| .tail _ <| .tail _ <| hp)) (fun r => kindL r.name == kindL asked) hLT
  have hstr : StrsAre ys₁.toList (((alikeL rows asked).map valOf).map so) := by
    rw [List.map_map]
    exact paired_strs hy₁ hp₆
  clear hy₁ hp₆
  have S₇ := S₆.sub (news' := (lst, W.listOf arr na) :: (L + 1, oc') :: (I, oI) :: (D₁, W.listOf ys₁ n₁) :: (lk, W.listOf vk ck) :: R) (by
    rintro p (_ | ⟨_, _ | ⟨_, _ | ⟨_, _ | ⟨_, _ | ⟨_, hp⟩⟩⟩⟩⟩)
    · exact .tail _ <| .tail _ <| .tail _ <| .head _
    · exact .tail _ <| .head _
    · exact .tail _ <| .tail _ <| .tail _ <| .tail _ <| .head _
    · exact .head _
    · exact .tail _ <| .tail _ <| .head _
    · exact .tail _ <| .tail _ <| .tail _ <| .tail _ <| .tail _ hp)
  have hhas₅ : Has [lst, L + 1, I] ((L + 1, oc') :: (lk, W.listOf vk ck) :: (lst, W.listOf arr na) :: (I, oI) :: R) := .one (by walk_at "MEM") (.one (by walk_at "MEM") (.one (by walk_at "MEM") .nil))
  have oD₁ := off_ne hhas₅ hne₆
  clear S₆ S₅ S₄ hne₆ hne₃
  have hsep₁ : Sep [lst, L + 1, I] ((D₁, W.listOf ys₁ n₁) :: (lk, W.listOf vk ck) :: R) := .cons oD₁ (.cons olk hsep)
  obtain ⟨R1, hR1⟩ : ∃ R1, R1 = (D₁, W.listOf ys₁ n₁) :: (lk, W.listOf vk ck) :: R := ⟨_, rfl⟩
  have r_D : (D₁, W.listOf ys₁ n₁) ∈ R1 := by rw [hR1]; exact .head _
  have r_lk : (lk, W.listOf vk ck) ∈ R1 := by rw [hR1]; exact .tail _ (.head _)
  have r_sub : ∀ p ∈ R, p ∈ R1 := by rw [hR1]; exact fun p hp => .tail _ (.tail _ hp)
  rw [← hR1] at S₇ hsep₁
  clear hR1
  refine x_ifJ (g := g) (L := L) (fun m' n' => ∃ dv, m' = upd mA (Str.ofString "due") dv ∧ n' = (lst, W.listOf arr na) :: (L + 1, oc') :: (I, oI) :: R1 ∧ Is R1 dv (if 63 ∈ kindL asked then .ref else .lst ((alikeL rows asked).map valOf))) ?_ ?_
  · walk_at "V"
    refine e_cell (v := .ref lk) S₇ (c := L + 1) (o := oc') rfl (by walk_at "MEM") hoc' rfl rfl (by decide) ?_
    refine o_inI (k := 63) S₇ (by walk_at "MEM") hik ?_
    walk_at "V"
    refine ⟨fun hb => ?_, fun hb => ?_⟩
    · have h63 : 63 ∈ kindL asked := of_decide_eq_true hb
      walk_at "V"
      have S₈ := ‹St g L (upd (upd mA _ _) _ _) _ _›
      rw [upd_upd] at S₈
      refine ⟨rfl, _, _, _, _, rfl, S₈, _, rfl, rfl, ?_⟩
      rw [if_pos h63, refused_so]
      exact ⟨_, rfl⟩
    · have h63 : 63 ∉ kindL asked := of_decide_eq_false hb
      walk_at "V"
      refine ⟨rfl, _, _, _, _, rfl, S₇, _, rfl, rfl, ?_⟩
      rw [if_neg h63]
      exact ⟨D₁, ys₁, n₁, rfl, r_D, hstr⟩
  · rintro h' t' m' n' S₈ ⟨dv, hm', hn', his⟩
    obtain rfl := hm'.symm
    obtain rfl := hn'.symm
    clear S₇
    have hlst : ∀ p ∈ (L + 1, oc') :: (I, oI) :: R1, p.1 ≠ lst := by
      rintro p (_ | ⟨_, _ | ⟨_, hp⟩⟩)
      · exact Ne.symm hlc
      · exact Ne.symm hlI
      · exact hsep₁.ne (.head _) p hp
    have hkv : ∀ kv ∈ rows.map kvOf, kv.1.length ≤ 1000 ∧ ∀ c ∈ kv.1, c < 128 := by
      intro kv hkv
      obtain ⟨r, hr, rfl⟩ := List.mem_map.mp hkv
      refine ⟨?_, fun c hc => (word_rng r.name c hc).2⟩
      have := word_len2 r.name (hok r hr).name
      show (wordL r.name).length ≤ 1000
      omega
    have hwa := word_len2 asked haskl
    walk_at "V"
    refine word_fn w asked (by omega) _ _ C S₈ (by walk_at "RM") (by walk_at "RM") ?_
    rintro _ _ h₉ t₉ S₉ _ _ ⟨u₉, rfl, rfl⟩
    walk_at "V"
    rw [so_empty]
    refine lcall_fn5 w x dx lst hv tk nd (wordL asked) (word_rng asked) (by omega) _ [] (fun _ h => by cases h) (by decide) _ [] (fun _ h => by cases h) (by decide) _ _ arr na (rows.map kvOf) ((L + 1, oc') :: (I, oI) :: R1)
      (.tail _ (.tail _ (r_sub _ hx))) (.tail _ (.tail _ (r_sub _ hdx))) hlst (hT.mono fun p hp => .tail _ (.tail _ (r_sub p hp))) (by rw [List.length_map]; omega) hkv C S₉ (by walk_at "RM") (by walk_at "RM") ?_
    rintro v news' h₁₀ t₁₀ S₁₀ ⟨hisv, arr', n', tl, rfl, htl, htab⟩
    rw [run_all rows asked] at hisv htab
    walk_at "V"
    refine ne_ans S₁₀ hisv (his.mono ?_) ?_ (by show un + 64 < _; omega) ?_
    · exact fun p hp => .tail _ (List.mem_append_right _ (.tail _ (.tail _ hp)))
    · intro ls hls l hl c hc
      dsimp only at hls
      split at hls
      · cases hls
      · cases hls
        obtain ⟨r, hr, rfl⟩ := List.mem_map.mp hl
        have := (valOf_ok r (hok.filter _ r hr)).2 c hc
        omega
    walk_at "V"
    refine ⟨fun hb => absurd hb Bool.false_ne_true, fun _ => ?_⟩
    walk_at "V"
    have S₁₁ := ‹St g L (upd (upd mA _ _) _ _) _ _›
    refine next _ _ _ (pick [lst, L + 1, I] (tl ++ (L + 1, oc') :: (I, oI) :: R1)) arr' n' oc' _ _ (S₁₁.sub ?_) hoc' (sep_pick _ _) (fun p hp => mem_pick (List.mem_append_right _ (.tail _ (.tail _ (r_sub p hp)))) (hsep p hp)) (htab.to fun t vs hm => mem_pick hm ?_) gt gr gh (vint_eq (by omega))
    · rintro p (_ | ⟨_, _ | ⟨_, _ | ⟨_, hp⟩⟩⟩)
      · exact .head _
      · exact .tail _ (List.mem_append_right _ (.head _))
      · exact .tail _ (List.mem_append_right _ (.tail _ (.head _)))
      · exact .tail _ (pick_sub p hp)
    · intro c hc
      rcases hc with _ | ⟨_, _ | ⟨_, _ | ⟨_, hc⟩⟩⟩
      · rcases List.mem_append.mp hm with hm | hm
        · exact htl _ hm
        · exact hlst _ hm
      · refine S₁₁.ne_of (.tail _ hm) (.tail _ (List.mem_append_right _ (.head _))) fun e => ?_
        rw [← e] at hoc'
        cases hoc'
      · refine S₁₁.ne_of (.tail _ hm) (.tail _ (List.mem_append_right _ (.tail _ (.head _)))) fun e => ?_
        rw [← e] at hoI
        have hoI' : Value.type "tuple" = Value.type "list_iterator" := hoI
        exact absurd hoI' (by decide)
      · cases hc
end
noncomputable section
/-- what stands at the head of a turn -/
def LawAt (x dx lst : Addr) (hv : Int) (tk : Tok) (nd : Nat) (cs : Array Value) (lx : Addr) (cell : Addr) (i : Nat) (m₁ : Str → Option Value) (n₁ : List (Addr × Obj)) : Prop :=
  ∃ (rows : List LRow) (arr : Array Value) (na : Nat) (oc : Obj) (cv : Option Value) (rest : List (Addr × Obj)) (lr : Addr) (vr : Array Value) (cr : Nat) (u : Tok),
    n₁ = (lst, W.listOf arr na) :: (cell, oc) :: rest ∧ oc.data = .cell cv ∧ Sep [lst, cell] rest ∧ lst ≠ cell ∧ (x, instObj 182 dx) ∈ rest ∧ (dx, hdD hv tk lst nd) ∈ rest ∧ (lx, W.listOf cs 0) ∈ rest ∧
    Tab rest arr (rows.map kvOf) ∧ (lr, W.listOf vr cr) ∈ rest ∧ LTab rest vr rows ∧ rows.length ≤ i ∧ RowsOk rows ∧
    m₁ (Str.ofString "table") = some (.ref x) ∧ m₁ (Str.ofString "rows") = some (.ref lr) ∧ m₁ (Str.ofString "place") = some (.int (i : Nat) u) ∧
    (0 < i → ∃ hl hvv hc, m₁ (Str.ofString "head") = some (.ref hl) ∧ (hl, W.listOf hvv hc) ∈ rest ∧ IntsAre hvv.toList (iz (headL rows)))
theorem law_walk : ∀ (w : World) {oc : Value} {od : Option Addr} {osl : Array (Option Value)} {name qual : Str} {params : Arguments} {body : List Stmt} {scope : Scope} {dV kV doc pm cdv ct : Value} {an : Option Addr}
    (ho : (hd.heap_39 w.params).lookup 234 = some ⟨oc, od, .func (fnX name qual params body scope [] dV kV doc pm an cdv ct), osl⟩)
    {fa : Addr} {cd : Value} {p : Program} {loose : List Str} {mean : ExcName → Option Value} {mg mb : Str → Option Value} {dp un : Nat} {gd : Option (List Code)} {L : Addr} {A₀ : Around} {g : Heap} {m : Str → Option Value} {s : Shared} {h : Heap} {t : Nat} {Q : Flow → Shared → Prop} {E : Value → Shared → Prop}
    {script : List Int} {ws : List Value} {ls : Addr} {oc₁ : Obj} {cv : Option Value},
    Cx w p loose mean mg mb scope [] A₀ g g → St g L m [(L + 1, oc₁)] h → oc₁.data = .cell cv → m (Str.ofString "script") = some (.ref ls) → g.IsList ls ws.toArray → ws.length ≤ 63 → IntsAre ws script → dp + 10 < recursionLimit → un + 200 < cLine →
    (∀ h' t' m' n', St g L m' n' h' → Q (.ret (.bool true)) (sh s h' t')) →
    wpAny (model PySem.Challenge.rw_pm0042_01.row.prog w) (ktrTop dp un gd qual scope L fa cd (cellsFrom (L + 1) scope.names []) []) (execs body (envX qual scope L fa cd (cellsFrom (L + 1) scope.names []))) Q
      (fun e s' => wpAny (model PySem.Challenge.rw_pm0042_01.row.prog w) (ktrTop dp un gd qual scope L fa cd (cellsFrom (L + 1) scope.names []) []) (leaving (envX qual scope L fa cd (cellsFrom (L + 1) scope.names [])) e) (fun _ s'' => E e s'') (fun e' s'' => E e' s'') s') (sh s h t) := by
  intro w oc od osl name qual params body scope dV kV doc pm cdv ct an ho fa cd p loose mean mg mb dp un gd L A₀ g m s h t Q E script ws ls oc₁ cv C S hcell hscr hls hlen hws hd hu hret
  have key : ∀ {X : Obj}, (_root_.hd.heap_39 w.params).lookup 234 = some X → some X = some (⟨oc, od, .func (fnX name qual params body scope [] dV kV doc pm an cdv ct), osl⟩ : Obj) := fun h => h.symm.trans ho
  have e := key (by k_is)
  cases e
  clear key
  walk_at "V"
  refine new_fn w _ C S (by walk_at "RM") (by walk_at "RM") ?_
  intro x dx lst hv tk nd nl h₁ t₁ S₁ hlt hdx hxl
  walk_at "V"
  have S₂ := ‹St g L (upd (upd (upd m _ _) _ _) _ _) (_ :: _ :: _) _›
  have hwsz : ws.toArray.size ≤ sizeLine := by rw [List.size_toArray, sizeLine_eq]; omega
  refine i_slice_up (items := ws.toArray) S₂ (hls.at fun o e => S₂.F.keep _ _ e) hwsz (fun a => by with_unfolding_all rfl) (fun r => by with_unfolding_all rfl) ?_
  intro lsl h₃ t₃ hlsl S₃
  rw [show slicePick ws.toArray none (some 5) none = (ws.take 5).toArray from by simpa using slicePick_upto' ws.toArray 5] at S₃
  have h5 : (ws.take 5).toArray.size ≤ 5 := by simp; omega
  refine o_addL S₃ (.tail _ (.head _)) (.head _) ?hz ?_
  case hz =>
    have : (11 : Nat) ≤ sizeLine := by decide
    simp at h5 ⊢
    omega
  intro lx h₄ hlx S₄
  generalize hcs : (_ ++ (List.take 5 ws).toArray.toList).toArray = cs at S₄
  have hci : IntsAre cs.toList ([52803, 44, 17, 12, 64, 70] ++ script.take 5) := by
    rw [← hcs]
    exact IntsAre.append (ns := [52803, 44, 17, 12, 64, 70]) (.cons _ _ (.cons _ _ (.cons _ _ (.cons _ _ (.cons _ _ (.cons _ _ .nil)))))) (hws.take 5)
  have hcz : cs.size ≤ 11 := by
    have := IntsAre.length hci
    simp at this
    omega
  clear hcs
  have S₅ := S₄.sub (news' := [(lst, W.listOf #[] nl), (L + 1, oc₁), (lx, W.listOf cs 0), (_, W.listOf #[] 0), (x, instObj 182 dx), (dx, hdD hv tk lst nd)]) (by
    rintro p (_ | ⟨_, _ | ⟨_, _ | ⟨_, _ | ⟨_, _ | ⟨_, _ | ⟨_, hp⟩⟩⟩⟩⟩⟩)
    · exact .tail _ (.tail _ (.tail _ (.tail _ (.tail _ (.tail _ (.head _))))))
    · exact .tail _ (.tail _ (.tail _ (.tail _ (.tail _ (.tail _ (.tail _ (.head _)))))))
    · exact .head _
    · exact .tail _ (.tail _ (.tail _ (.head _)))
    · exact .tail _ (.tail _ (.tail _ (.tail _ (.head _))))
    · exact .tail _ (.tail _ (.tail _ (.tail _ (.tail _ (.head _)))))
    · cases hp)
  have hxlt : x < lst := hxl
  have hL1 : L + 1 < dx := hlt _ (.head _)
  refine for_listI (vs := cs) rfl rfl tgt_name S₅ (LawAt x dx lst hv tk nd cs lx (L + 1)) ?h0 (fun i m₁ n₁ h₁ hJ S => ?hl) ?turn ?done (by passes_own)
  case h0 =>
    have hlr0 := ‹∀ p ∈ [(x, instObj 182 dx), (dx, hdD hv tk lst nd), (lst, W.listOf #[] nl), (L + 1, oc₁)], p.1 < _›
    have hlxl : lst < lx := hlx _ (.tail _ (.tail _ (.tail _ (.tail _ (.tail _ (.head _))))))
    have hlrl := hlr0 (lst, W.listOf #[] nl) (.tail _ (.tail _ (.head _)))
    dsimp only at hlrl
    have o1 : dx < x := hdx
    have o2 : x < lst := hxl
    have o3 : L + 1 < dx := hL1
    have o4 : L + 1 < lst := Nat.lt_trans hL1 (Nat.lt_trans hdx hxl)
    refine ⟨[], #[], nl, oc₁, cv, [(lx, W.listOf cs 0), (_, W.listOf #[] 0), (x, instObj 182 dx), (dx, hdD hv tk lst nd)], _, #[], 0, _, rfl, hcell, ?_, Ne.symm (Nat.ne_of_lt o4), .tail _ (.tail _ (.head _)), .tail _ (.tail _ (.tail _ (.head _))), .head _, .nil, .tail _ (.head _), .nil, Nat.le_refl _, (fun r hr => by cases hr), rfl, rfl, rfl, fun h => absurd h (Nat.lt_irrefl 0)⟩
    intro p hp c hc
    rcases hc with _ | ⟨_, _ | ⟨_, hc⟩⟩
    · rcases hp with _ | ⟨_, _ | ⟨_, _ | ⟨_, _ | ⟨_, hp⟩⟩⟩⟩
      · exact Ne.symm (Nat.ne_of_lt hlxl)
      · exact Ne.symm (Nat.ne_of_lt hlrl)
      · exact Nat.ne_of_lt o2
      · exact Nat.ne_of_lt (Nat.lt_trans o1 o2)
      · cases hp
    · rcases hp with _ | ⟨_, _ | ⟨_, _ | ⟨_, _ | ⟨_, hp⟩⟩⟩⟩
      · exact Ne.symm (Nat.ne_of_lt (Nat.lt_trans o4 hlxl))
      · exact Ne.symm (Nat.ne_of_lt (Nat.lt_trans o4 hlrl))
      · exact Ne.symm (Nat.ne_of_lt (Nat.lt_trans hL1 hdx))
      · exact Ne.symm (Nat.ne_of_lt hL1)
      · cases hp
    · cases hc
  case hl =>
    obtain ⟨rows, arr, na, oc, cv', rest, lr, vr, cr, u, rfl, _, _, _, _, _, hm, _⟩ := hJ
    exact S.isList (.tail _ (.tail _ hm))
  case turn =>
    rintro i v m₁ n₁ h₆ t₆ I oI hv' ⟨rows, arr, na, oc, cv', rest, lr, vr, cr, u, rfl, hoc, hsep, hlc, hx, hdx', hlx', hT, hlr, hLT, hri, hok, e1, e2, e3, _⟩ hI hoI S₆
    obtain ⟨xi, ui, rfl, hxi⟩ := IntsAre.at hci i v (by simpa using hv')
    have hil : i < cs.size := (Array.getElem?_eq_some_iff.mp hv').1
    walk_at "VS"
    have S₇ := (‹St g L (upd m₁ _ _) _ _›).sub (news' := (lst, W.listOf arr na) :: (L + 1, oc) :: (I, oI) :: rest) (by
      rintro p (_ | ⟨_, _ | ⟨_, _ | ⟨_, hp⟩⟩⟩)
      · exact .tail _ (.head _)
      · exact .tail _ (.tail _ (.head _))
      · exact .head _
      · exact .tail _ (.tail _ (.tail _ hp)))
    have hlI : lst ≠ I := hI _ (.head _)
    have hIc : I ≠ L + 1 := Ne.symm (hI (L + 1, oc) (.tail _ (.head _)))
    have hsep3 : Sep [lst, L + 1, I] rest := fun p hp c hc => by
      rcases hc with _ | ⟨_, _ | ⟨_, _ | ⟨_, hc⟩⟩⟩
      · exact hsep p hp _ (.head _)
      · exact hsep p hp _ (.tail _ (.head _))
      · exact hI p (.tail _ (.tail _ hp))
      · cases hc
    have up3 : ∀ p ∈ rest, p ∈ (lst, W.listOf arr na) :: (L + 1, oc) :: (I, oI) :: rest := fun p hp => .tail _ (.tail _ (.tail _ hp))
    refine turnA w ho rfl C S₇ rfl e3 e2 (by omega) (by omega) (up3 _ hlr) (hLT.mono up3) (fun r hr => (hok r hr).name) hd hu ?_
    intro h₈ t₈ m₈ deed name value part marks S₈ hrng hnums q1 q2 q3
    refine turnB w ho rfl C S₈ hsep3 hlc hIc hoc (q2.trans e2) hlr hLT (by omega) hnums hrng hd hu ?_
    intro h₉ t₉ mf R0 oc' lk vk ck fr D₁ ys₁ n₁ D₂ ys₂ n₂ S₉ sep₉ sub₉ hoc' r_lk hik r_D₁ hy₁ r_D₂ hy₂ r_fresh f1 f2 f3 f4 hnums₉ t1 p1
    refine turnC w ho rfl C S₉ sep₉ hoc' r_lk hik r_D₁ hy₁ r_D₂ hy₂ r_fresh f1 f2 f3 f4 (sub₉ _ hlr) (hLT.mono sub₉) hok (by omega) hnums₉ hrng hd hu ?_
    intro h₁₀ t₁₀ m₁₀ R₁₀ dv lr' vr' cr' S₁₀ sep₁₀ sub₁₀ rw₁₀ lr₁₀ lt₁₀ due₁₀ is₁₀ nums₁₀ t2 p2
    have subM : ∀ p ∈ rest, p ∈ R₁₀ := fun p hp => sub₁₀ p (sub₉ p hp)
    have ft : m₁₀ (Str.ofString "table") = some (.ref x) := t2.trans (t1.trans (q1.trans e1))
    have fpl : m₁₀ (Str.ofString "place") = some (.int (i : Nat) u) := p2.trans (p1.trans (q3.trans e3))
    obtain ⟨un', fnm⟩ := nums₁₀.name
    refine turnD w ho rfl C S₁₀ sep₁₀ hlc hIc hlI hoc' hoI (subM _ hx) (subM _ hdx') (hT.mono subM) (by omega) hok ft due₁₀ is₁₀ nums₁₀ hrng hd hu ?_
    intro h₁₁ t₁₁ m₁₁ R₁₁ arr₁₁ n₁₁ v₁₁ S₁₁ sep₁₁ sub₁₁ tab₁₁ hm₁₁
    have hrm := hrng.marks
    obtain ⟨hok₂, hlen₂⟩ := step_ok rows deed name value part marks hok (fresh_ok deed name value part marks hrng.name hrng.value hrng.part (by omega) (partL_len part marks (by omega)))
    generalize (stepL rows deed name value part marks).2 = rows₂ at lt₁₀ tab₁₁ hok₂ hlen₂
    have ft₁₁ : m₁₁ (Str.ofString "table") = some (.ref x) := by rw [hm₁₁]; exact ft
    have frw₁₁ : m₁₁ (Str.ofString "rows") = some (.ref lr') := by rw [hm₁₁]; exact rw₁₀
    have fpl₁₁ : m₁₁ (Str.ofString "place") = some (.int (i : Nat) u) := by rw [hm₁₁]; exact fpl
    have fnm₁₁ : m₁₁ (Str.ofString "name") = some (.int (name : Nat) un') := by rw [hm₁₁]; exact fnm
    have subP : ∀ p ∈ rest, p ∈ R₁₁ := fun p hp => sub₁₁ p (subM p hp)
    refine turnE w ho rfl C S₁₁ sep₁₁ (subP _ hx) (subP _ hdx') tab₁₁ (by omega) hok₂ ft₁₁ frw₁₁ (sub₁₁ _ lr₁₀) (lt₁₀.mono sub₁₁) hd hu ?_ (by passes_own)
    intro h₁₂ t₁₂ m₁₂ hl hvv hc S₁₂ ofh hih eh t4 r4 p4 n4
    have subh : ∀ p ∈ R₁₁, p ∈ (hl, W.listOf hvv hc) :: R₁₁ := fun p hp => .tail _ hp
    refine turnF w ho rfl C S₁₂ (.cons ofh sep₁₁) hlc hIc hlI hoc' hoI (subh _ (subP _ hx)) (subh _ (subP _ hdx')) (tab₁₁.mono subh) (by omega) hok₂ (t4.trans ft₁₁) (r4.trans frw₁₁) (p4.trans fpl₁₁) (n4.trans fnm₁₁) hrng.name (subh _ (sub₁₁ _ lr₁₀)) ((lt₁₀.mono sub₁₁).mono subh) hd hu ?_
    intro h₁₃ t₁₃ m₁₃ R₁₃ arr₁₃ n₁₃ oc₁₃ cv₁₃ u₁₃ S₁₃ hoc₁₃ sep₁₃ sub₁₃ tab₁₃ t5 r5 h5 p5
    have subQ : ∀ p ∈ rest, p ∈ R₁₃ := fun p hp => sub₁₃ p (subh p (subP p hp))
    refine turn_next ((lst, W.listOf arr₁₃ n₁₃) :: (L + 1, oc₁₃) :: R₁₃) S₁₃ (.tail _ (.tail _ (.head _))) ?_ ?_ ⟨rows₂, arr₁₃, n₁₃, oc₁₃, cv₁₃, R₁₃, lr', vr', cr', u₁₃, rfl, hoc₁₃, fun p hp c hc => ?_, hlc, subQ _ hx, subQ _ hdx', subQ _ hlx', tab₁₃, sub₁₃ _ (subh _ (sub₁₁ _ lr₁₀)), (lt₁₀.mono sub₁₁).mono fun p hp => sub₁₃ p (subh p hp), by omega, hok₂, t5.trans (t4.trans ft₁₁), r5.trans (r4.trans frw₁₁), p5,
      fun _ => ⟨hl, hvv, hc, h5.trans eh, sub₁₃ _ (.head _), hih⟩⟩
    · rintro p (_ | ⟨_, _ | ⟨_, hp⟩⟩)
      · exact .head _
      · exact .tail _ (.head _)
      · exact .tail _ (.tail _ (.tail _ hp))
    · rintro p (_ | ⟨_, _ | ⟨_, hp⟩⟩)
      · exact hlI
      · exact Ne.symm hIc
      · exact sep₁₃ p hp I (.tail _ (.tail _ (.head _)))
    · rcases hc with _ | ⟨_, _ | ⟨_, hc⟩⟩
      · exact sep₁₃ p hp _ (.head _)
      · exact sep₁₃ p hp _ (.tail _ (.head _))
      · cases hc
  case done =>
    rintro m₁ n₁ h₆ t₆ ⟨rows, arr, na, oc, cv', rest, lr, vr, cr, u, rfl, hoc, hsep, hlc, hx, hdx', hlx', hT, hlr, hLT, hri, hok, e1, e2, e3, e4⟩ S₆
    have hc6 : 6 ≤ cs.size := by
      have := IntsAre.length hci
      simp at this
      omega
    obtain ⟨hl, hvv, hc, eh, hhl, hih⟩ := e4 (by omega)
    have hends : ∀ r ∈ rows, Ends13 r := fun r hr => (hok r hr).ends
    have htt := table_text rows hends
    have hhl' := headL_len rows hok
    have hlt := headL_lt rows hok
    have hlt' : ∀ n ∈ headL rows ++ [13, 10], n < 64 ^ 12 := by
      intro n hn
      rcases List.mem_append.mp hn with hn | hn
      · have := hlt n hn; omega
      · simp only [List.mem_cons, List.not_mem_nil, or_false] at hn; omega
    have hol := textL_len (headL rows ++ [13, 10]) hlt'
    rw [← octs_text, List.length_append] at hol
    have hz1 := IntsAre.sizeA hih
    have hsl : (byL (strL (rows.map kvOf))).size = (octs (headL rows ++ [13, 10])).length := by rw [htt]; simp [byL]
    have hbi : KBw.bInts (byL (strL (rows.map kvOf))) = iz (octs (headL rows ++ [13, 10])) := by
      rw [htt]
      refine byL_ints _ fun c hc => ?_
      rw [octs_text] at hc
      have := textL_lt _ c hc
      omega
    have hkv : ∀ kv ∈ rows.map kvOf, kv.1.length ≤ 1000 ∧ kv.2.length ≤ 10000 ∧ (∀ c ∈ kv.1, c < 256) ∧ (∀ c ∈ kv.2, c < 256) := by
      intro kv hkv
      obtain ⟨r, hr, rfl⟩ := List.mem_map.mp hkv
      have h1 := word_len2 r.name (hok r hr).name
      have h2 := valOf_ok r (hok r hr)
      refine ⟨show (wordL r.name).length ≤ 1000 by omega, h2.1, fun c hc => ?_, fun c hc => ?_⟩
      · have := (word_rng r.name c hc).2; omega
      · have := h2.2 c hc; omega
    have m_hl : (hl, W.listOf hvv hc) ∈ (lst, W.listOf arr na) :: (L + 1, oc) :: rest := .tail _ (.tail _ hhl)
    refine x_compS (fun _ => true) (fun v y => ∃ c u, v = .str (so [c]) u ∧ ∃ u, y = .int ((fun c : Nat => (c : Int)) c) u) rfl (closureFor_none (by decide)) (by decide) rfl (by decide) rfl rfl rfl (fun _ => rfl) ?_
    walk_at "VS"
    rename_i l₇ h₇ hl₇ S₇ a₈ h₈ ha₈ S₈
    refine text_fn w (headL rows ++ [13, 10]) (by simp; omega) hlt' a₈ _ ⟨_, _, .head _, ?hi8⟩ C S₈ (by walk_at "RM") (by walk_at "RM") ?_
    case hi8 =>
      rw [iz_append]
      exact IntsAre.append hih (.cons _ _ (.cons _ _ .nil))
    rintro _ _ h₉ t₉ S₉ hk₉ _ ⟨u₉, rfl, rfl⟩
    refine comp_strS (f := fun c => (c : Int)) rfl rfl S₉ (by rw [← octs_text, sizeLine_eq]; simp at hol; omega) (fun C' c uc s' h₁₀ t₁₀ mC E' S₁₀ hn hm => ?_) ?_
    · walk_at "V"
      refine c_ord fun u t => ?_
      exact ⟨⟨_, rfl⟩, h₁₀, _, rfl, fun _ _ e => e⟩
    intro D₂ h₁₁ t₁₁ ys₂ n₂ S₁₁ hne₁₁ hi₁₁
    have hi₁₂ : IntsAre ys₂.toList (iz (octs (headL rows ++ [13, 10]))) := hi₁₁
    have S₁₂ := S₁₁.sub (news' := (D₂, W.listOf ys₂ n₂) :: (lst, W.listOf arr na) :: (L + 1, oc) :: rest) (by
      rintro p (_ | ⟨_, hp⟩)
      · exact .head _
      · exact .tail _ (.tail _ (.tail _ hp)))
    clear S₁₁ S₉ S₈ S₇
    walk_at "V"
    refine BoolOp_and ?_
    walk_at "V"
    refine e_comp (fun _ => true) (fun v y => y = v) (closureFor_none (by decide)) (by decide) rfl (by decide) rfl (fun _ => rfl) ?_
    walk_at "V"
    refine bytes_fn w x dx lst hv tk nd arr na (rows.map kvOf) _ (.tail _ (.tail _ (.tail _ hx))) (.tail _ (.tail _ (.tail _ hdx'))) (.tail _ (.head _)) (hT.mono fun p hp => .tail _ (.tail _ (.tail _ hp))) (by rw [List.length_map]; omega) hkv C S₁₂ (by walk_at "RM") (by walk_at "RM") ?_
    rintro _ _ h₁₃ t₁₃ S₁₃ _ _ ⟨rfl, ub, rfl⟩
    refine ⟨_, _, rfl, ?_⟩
    refine comp_bytes rfl S₁₃ (by rw [hsl, sizeLine_eq]; simp at hol; omega) (fun C' v s' h₅ t₅ mC E' hn hm => ?_) ?_
    · walk_at "V"
      exact ⟨rfl, h₅, t₅, rfl, fun _ _ e => e⟩
    intro D h₁₄ t₁₄ ys nD S₁₄ hneD hiD
    rw [hbi] at hiD
    walk_at "V"
    refine o_eqI S₁₄ (.head _) (.tail _ (.head _)) hiD hi₁₂ (by show un + 64 < _; omega) ?_
    rw [decide_eq_true rfl]
    walk_at "V"
    refine BoolOp_one ?_
    walk_at "V"
    refine new_fn w _ C S₁₄ (by walk_at "RM") (by walk_at "RM") ?_
    intro x₂ dx₂ lst₂ hv₂ tk₂ nd₂ nl₂ h₁₅ t₁₅ S₁₅ hlt₂ hdx₂ hxl₂
    walk_at "V"
    refine bytes_fn w x₂ dx₂ lst₂ hv₂ tk₂ nd₂ #[] nl₂ [] _ (.head _) (.tail _ (.head _)) (.tail _ (.tail _ (.head _))) .nil (by decide) (fun _ h => by cases h) C S₁₅ (by walk_at "RM") (by walk_at "RM") ?_
    rintro _ _ h₁₆ t₁₆ S₁₆ _ _ ⟨rfl, ub₂, rfl⟩
    refine ⟨_, _, rfl, ?_⟩
    refine Constant_bytes ?_
    refine eq_bytes ?_
    exact hret _ _ _ _ S₁₆
end
end Mine
open PySem.Calls PySem.Spec Mine
theorem PySem.Challenge.cw_pm0042_01_holds : PySem.Challenge.rw_pm0042_01.Holds := by
  refine hd ?_
  k_go0
  all_goals (try k_fold)
  rename_i w s₀ s₁ mg mb G Y fa o pm doc ho hg KX X V GL T B TE TW wa wo M w8 w7 hcd script hs hlay0 hL1 hr1 hl2 as1 as2 l ws as3 hLs ra w1 r0 hI hr hc hc2 K0 hD h₁ tk₁ F oc₁ hoc N0 X0
  have S : St _ _ _ _ h₁ := ⟨F, N0⟩
  have hlen : ws.length ≤ 63 := by
    have := IntsAre.length hI
    omega
  have H := fun hscr hret => law_walk (fa := fa) (cd := .ref w8) (dp := 1 + claimMargin + 1) (un := 7) (gd := some []) (s := s₁) (t := tk₁) (Q := qk) (E := fun e s'' => GoodW PySem.Challenge.rw_pm0042_01.row.claim (classAt s₀.heap) (ExcName.means s₀.heap) [ofPy (.list (script.map PyData.int))] s₁ (.error e) s'') w (by k_is) ⟨K0, KX, T, rfl⟩ S hoc hscr hLs hlen hI (by decide) (by decide) hret
  refine H rfl fun h' t' m' n' S' => ?_
  refine ⟨.inl ⟨_, _, [], rfl, fun _ => rfl, ReadsW.bool true, ?post, fun _ => ⟨List.nodup_nil, fun _ hm => nomatch hm⟩⟩, S'.F.keep, rfl, hg⟩
  first | rfl | wrow_post
