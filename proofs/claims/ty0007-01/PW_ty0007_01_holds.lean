import PyProof.Rows.All
import Wide.All
import OpenK.AllK
import Wide.FinOn
import PyProof.SetKind
import PyProof.Rows.SetFrom
import KE.KDictSum
import PyProof.FactsAll.set
import KE.KSortKey
import Lean
import PySem.Challenge.RW_ty0007_01
set_option Elab.async false
set_option linter.all false
open PySem PySem.W PyProof.Rows
namespace Mine
section
noncomputable def view : Program := { PySem.Challenge.pw_ty0007_01 with main := { PySem.Challenge.pw_ty0007_01.main with body := [1, 2, 4, 6, 8, 9, 10, 11, 12, 13, 14, 15, 16, 17].filterMap fun i => PySem.Challenge.pw_ty0007_01.main.body[i]? } }
theorem wellS : PySem.Challenge.rw_ty0007_01.wellSaid = true := by decide +kernel
set_option maxRecDepth 100000 in
set_option maxHeartbeats 8000000 in
noncomputable def headOf (H : Hook) := fun k1 hl hw hc => holds_open (r := OpenLaw.row PySem.Challenge.rw_ty0007_01) (q := Mine.view) (loose := [Str.ofString "COMPILER_FLAG_NAMES"]) (Xt := fun s => xlAt Mine.view [] s && recOk (RowW.records (OpenRow.toRowW (OpenLaw.row PySem.Challenge.rw_ty0007_01))) s) (XP := XL Mine.view []) (Yf := Hook.obs H) (Ya := Hook.val H) (YP := Hook.says H) (N := 1828) hl (Hook.of H) (Hook.keeps H) (fun s e => xl_of s (Bool.and_eq_true_iff.mp e).1) XL.keeps (by rfl) (by rfl) (by rfl) (fun s e => recFacts_of (Bool.and_eq_true_iff.mp e).2) (by rfl) k1 (by decide +kernel) ⟨rfl, rfl, rfl, rfl, rfl, by decide +kernel⟩ hw hc
end
local macro_rules | `(tactic| o_law) => `(tactic| refine holds_law wellS fun said => ?_)
local macro_rules | `(tactic| o_head $H) => `(tactic| refine headOf $H (by assumption) (LeftO.of_split "special-get-raises" fun w => by kernel_rfl) ?hw ?hc)
section
set_option maxRecDepth 100000 in
set_option maxHeartbeats 8000000 in
open_top hd for PySem.Challenge.rw_ty0007_01
end
section
open PySem PySem.W PyProof.Rows PySem.Calls
noncomputable abbrev PR : Program := Challenge.rw_ty0007_01.row.prog
/-- what a call hands back: the value, the ledger of what it was handed and made, and all else as it stood -/
noncomputable abbrev Back (s : Shared) (h₀ : Heap) (L : Addr) (m : Str → Option Value) (news : List (Addr × Obj)) (Q : Value → Shared → Prop) (Ret : Value → List (Addr × Obj) → Prop) : Prop :=
  ∀ (v : Value) (news' : List (Addr × Obj)), Ret v news' → ∀ (h' : Heap) (tk' : Nat), Fr h₀ L h' m → News h₀ L h' news' → GSub s.heap h' (news.map (·.1)) →
    (∀ p ∈ news', p.1 ∈ news.map (·.1) ∨ s.heap.get? p.1 = none) → Q v { s with heap := h', toks := tk' }
noncomputable abbrev Claim (w : World) (p : Program) (loose : List Str) (mean : ExcName → Option Value) (mg mb : Str → Option Value) (f : Addr) (deep : Nat) (news : List (Addr × Obj)) (vs : List Value) (Pre : Heap → Prop) (Ret : Value → List (Addr × Obj) → Prop) : Prop :=
  ∀ (dp un : Nat) (gd : Option (List Code)) (cn : Str) (cs : Scope) (a : Addr) (ccd : Value) (cl : List (Str × Addr)) (outer : List Env) (A₀ : Around) (base h₀ : Heap) (L : Addr) (m : Str → Option Value) (s : Shared) (Q E : Value → Shared → Prop),
    Below A₀ base outer h₀ → CodeHd base 89 85 → Fr h₀ L s.heap m → (hd.heap_1 w.params).In h₀ → News h₀ L s.heap news → Top p loose mean mg mb h₀ → cs.kind = .function →
    dp + deep < recursionLimit → un + 8 * deep < cLine → Pre s.heap → Back s h₀ L m news Q Ret →
      wpAny (model PR w) (ktrTop dp un gd cn cs L a ccd cl outer) (call (.ref f) vs) Q E s
/-- small bounds, cheaper than a decision procedure's proofs -/
theorem nat_lt1 (a : Nat) : a < a + 1 := Nat.lt_succ_self a
theorem nat_ltS {a b : Nat} (h : a < b) : a < b + 1 := Nat.lt_succ_of_lt h
theorem nat_room0 {x K N : Nat} (h : x + K < N) : x < N := Nat.lt_of_le_of_lt (Nat.le_add_right x K) h
theorem nat_room1 {x K a N : Nat} (h : x + K < N) (e : Nat.ble a K = true) : x + a < N := Nat.lt_of_le_of_lt (Nat.add_le_add_left (Nat.le_of_ble_eq_true e) x) h
theorem nat_room2 {x K a b N : Nat} (h : x + K < N) (e : Nat.ble (a + b) K = true) : x + a + b < N := Nat.add_assoc x a b ▸ nat_room1 h e
theorem nat_room3 {x K a b c N : Nat} (h : x + K < N) (e : Nat.ble (a + b + c) K = true) : x + a + b + c < N := by
  rw [Nat.add_assoc x a b]; exact nat_room2 h e
theorem nat_eqle {x k N : Nat} (h : x = k) (e : k ≤ N) : x ≤ N := h ▸ e
theorem int_lt {q k : Nat} {N : Int} (h : q < k) (e : (k : Int) ≤ N) : (q : Int) < N := Int.lt_of_lt_of_le (Int.ofNat_lt.mpr h) e
theorem int_le {q k : Nat} {N : Int} (h : q < k) (e : (k : Int) ≤ N) : (q : Int) ≤ N := Int.le_of_lt (int_lt h e)
theorem nat_meas {n j : Nat} (h : j < n) : n - (j + 1) < n - j := Nat.sub_lt_sub_left h (Nat.lt_succ_self j)
theorem c_low {c k : Nat} (h : 65 ≤ c ∧ c < 81) (e : Nat.blt k 65 = true) : c ≠ k := fun q => absurd (q ▸ h.1) (Nat.not_le_of_lt (Nat.le_of_ble_eq_true e))
theorem c_high {c k : Nat} (h : 65 ≤ c ∧ c < 81) (e : Nat.ble 81 k = true) : c ≠ k := fun q => absurd (q ▸ h.2) (Nat.not_lt_of_le (Nat.le_of_ble_eq_true e))
theorem c_lt {c k : Nat} (h : 65 ≤ c ∧ c < 81) (e : Nat.ble 81 k = true) : c < k := Nat.lt_of_lt_of_le h.2 (Nat.le_of_ble_eq_true e)
/-- a goal that several ways reach is shown once -/
theorem share {α β γ δ : Sort _} (K : α → β → γ → δ → Prop) {a : α} {b : β} {c : γ} {d : δ} {P : Prop} (proof : K a b c d) (main : K a b c d → P) : P := main proof
noncomputable def Stop (P : Prop) : Prop := P
theorem Stop.out {P : Prop} (h : Stop P) : P := h
inductive Done (g : Heap) (L' : Addr) (s : Shared) (Ret : Value → List (Addr × Obj) → Prop) (v : Value) : Shared → Prop
  | mk (m' : Str → Option Value) (news' : List (Addr × Obj)) (h' : Heap) (tk' : Nat) (F : Fr g L' h' m') (N : News g L' h' news') (r : Ret v news') : Done g L' s Ret v { s with heap := h', toks := tk' }
/-- a call gives back a value and hands over nothing -/
inductive ValRet (f : Tok → Value) : Value → List (Addr × Obj) → Prop
  | mk (t : Tok) : ValRet f (f t) []
set_option autoImplicit false in
theorem ValRet.all {f : Tok → Value} {P : Value → List (Addr × Obj) → Prop} (h : ∀ (t : Tok), P (f t) []) : ∀ (x0 : Value) (x1 : List (Addr × Obj)), ValRet f x0 x1 → P x0 x1 :=
  fun _ _ t => ValRet.rec (motive := fun x0 x1 _ => P x0 x1) h t
theorem ValRet.of {f : Tok → Value} {v : Value} {t : Tok} (h : v = f t) : ValRet f v [] := h ▸ .mk t
/-- a loop that is left in its first turn -/
inductive One (s₀ : Shared) : Nat → Shared → Prop
  | mk : One s₀ 1 s₀
set_option autoImplicit false in
theorem One.all {s₀ : Shared} {P : Nat → Shared → Prop} (h : P 1 s₀) : ∀ (x0 : Nat) (x1 : Shared), One s₀ x0 x1 → P x0 x1 :=
  fun _ _ t => One.rec (motive := fun x0 x1 _ => P x0 x1) h t
/-- a loop goes on: the invariant at a smaller measure -/
inductive Again (I : Nat → Shared → Prop) (k : Nat) (s : Shared) : Prop
  | mk (j : Nat) (h : j < k) (hI : I j s)
theorem Again.elim' {I : Nat → Shared → Prop} {k : Nat} {s : Shared} (h : Again I k s) : ∃ j, j < k ∧ I j s := by
  obtain ⟨j, hj, hI⟩ := h
  exact ⟨j, hj, hI⟩
theorem comp_end {h₀ : Heap} {L I C D : Addr} {m : Str → Option Value} {s₁ : Shared} {oI oC oD : Obj} {S : List (Addr × Obj) → Prop} {rest : Value → List (Addr × Obj) → Prop} {y : Value} {h' : Heap} {tk : Nat} {nw : List (Addr × Obj)}
    (F : Fr h₀ L h' m) (N : News h₀ L h' ((I, oI) :: (C, oC) :: (D, oD) :: nw)) (off : LCg.Off3 I C D nw) (hS : S nw) (r : rest y nw) :
    LCg.CompEnd h₀ L m s₁ I oI C oC D oD S rest y { s₁ with heap := h', toks := tk } := ⟨h', tk, nw, rfl, F, N, off, hS, r⟩
theorem Done.intro {g : Heap} {L' : Addr} {s : Shared} {Ret : Value → List (Addr × Obj) → Prop} {v : Value} {m' : Str → Option Value} {all : List (Addr × Obj)} {h' : Heap} {tk' : Nat} (F : Fr g L' h' m') (N : News g L' h' all) (news' : List (Addr × Obj)) (sub : ∀ p ∈ news', p ∈ all) (r : Ret v news') :
    Done g L' s Ret v { s with heap := h', toks := tk' } := ⟨m', news', h', tk', F, fun p hp => N p (sub p hp), r⟩
theorem GSub.list {H g : Heap} {adr : List Addr} {l : Addr} {its : Array Value} (G : GSub H g adr) (hl : H.IsList l its) (hn : l ∉ adr) : g.IsList l its := by
  obtain ⟨o, e, r⟩ := hl
  exact ⟨o, G l o e hn, r⟩
theorem GSub.list0 {H g : Heap} {l : Addr} {its : Array Value} (G : GSub H g []) (hl : H.IsList l its) : g.IsList l its := GSub.list G hl (List.not_mem_nil)
section
variable {prog : Program} {w : World} {A₀ A : Around} {E : Value → Shared → Prop} {s : Shared} {base h₀ : Heap} {outer : List Env} {L : Addr} {m : Str → Option Value} {env : Env} {news : List (Addr × Obj)} {K : Frag} {p : Program} {loose : List Str} {mean : ExcName → Option Value} {mg mb : Str → Option Value}
  {name qual : Str} {params : Arguments} {body : List Stmt} {scope : Scope} {dV kV doc pm cdv ct oc : Value} {an od : Option Addr} {osl : Array (Option Value)} {f : Addr} {args : Args} {binds : List (Str × Value)} {Q : Value → Shared → Prop} {Ret : Value → List (Addr × Obj) → Prop}
theorem later_of {g h' : Heap} {L' : Addr} {news' : List (Addr × Obj)} (G : GSub s.heap g (news.map (·.1))) (N' : News g L' h' news') : ∀ p ∈ news', p.1 ∈ news.map (·.1) ∨ s.heap.get? p.1 = none := fun q hq => by
  by_cases hm : q.1 ∈ news.map (·.1)
  · exact .inl hm
  · refine .inr ?_
    cases e : s.heap.get? q.1 with
    | none => rfl
    | some o =>
      have e1 := G q.1 o e hm
      rw [(N' q hq).2.2] at e1
      cases e1
theorem enter_plain (B : Below A₀ base outer h₀) (F : Fr h₀ L s.heap m) (X₀ : K.In h₀) (N : News h₀ L s.heap news) (T : Top p loose mean mg mb h₀) (hA : A.frames = some (env :: outer)) (hf : env.frame = some L) (hke : env.scope.kind = .function)
    (ho : K.lookup f = some ⟨oc, od, .func (fnOf name qual params body scope dV kV doc pm an cdv ct), osl⟩) (hcd : codeIn K cdv qual = true) (hroom : A.depth < recursionLimit)
    (hbind : BindsTo s (fnOf name qual params body scope dV kV doc pm an cdv ct) args binds) (hloc : ∀ y ∈ binds, scope.names.lookup y.1 = some .local)
    (hret : Back s h₀ L m news Q Ret)
    (h : ∀ g L' h₁, Fr h₀ L g m → Fr g L' h₁ (fun y => binds.reverse.lookup y) → News g L' h₁ news → Below A base (env :: outer) g → K.In g → Top p loose mean mg mb g → GSub s.heap g (news.map (·.1)) →
      wpAny (model prog w) (A.deeper (envOf qual scope L' f cdv)) (execs body (envOf qual scope L' f cdv))
        (fun fl s' => Done g L' s Ret (match fl with | .ret v => v | _ => .none) s')
        (fun _ _ => False) { s with heap := h₁, toks := s.toks + binds.length })
    (hco : scope.isCoroutine = false) (hgen : scope.isGenerator = false) (hk : scope.kind = .function)
    (hcell : ∀ x ∈ scope.names, x.2 ≠ .cell) : codeAny (model prog w) A (.call (.ref f) args) (fun r s' => match r with | .ok (.ret v) => Q v s' | .ok _ => False | .error e => E e s') s := by
  refine code_defG B F X₀ N T hA hf hke ho hcd hroom hbind hloc (fun g L' h₁ FG F₁ N₁ B₁ X₁ T₁ G₁ => ?_) hco hgen hk hcell
  refine wpAny_mono (h g L' h₁ FG F₁ N₁ B₁ X₁ T₁ G₁) (fun fl s' hd => ?_) fun _ _ e => e.elim
  obtain ⟨m', news', h', tk', F', N', hr⟩ := hd
  refine ⟨L', m', news', F', N', fun kF kN => ?_⟩
  exact hret _ news' hr h' tk' kF kN (fun b o e nb => F'.keep b o (G₁ b o e nb)) (later_of G₁ N')
end
section
variable {prog : Program} {w : World} {A : Around} {s : Shared} {env : Env} {h₀ : Heap} {L : Addr} {m : Str → Option Value} {news : List (Addr × Obj)}
noncomputable def ForFlow (Q : Flow → Shared → Prop) (rest : Shared → Prop) (f : Flow) (s₃ : Shared) : Prop := OwitFlow Q rest f s₃
noncomputable def ForTurn (prog : Program) (w : World) (A : Around) (env : Env) (target : Expr) (body orelse : List Stmt) (Q : Flow → Shared → Prop) (rest : Shared → Prop) (r : Option Value) (s₁ : Shared) : Prop := match r with
  | none => wpAny (model prog w) A (execs orelse env) Q (fun _ _ => False) s₁
  | some y => wpAny (model prog w) A (assign target env y) (fun _ s₂ => wpAny (model prog w) A (execs body env) (ForFlow Q rest) (fun _ _ => False) s₂) (fun _ _ => False) s₁
inductive ForAt (prog : Program) (w : World) (A : Around) (env : Env) (target : Expr) (body orelse : List Stmt) (Q : Flow → Shared → Prop) (it : Value) (s₂ : Shared) : Prop
  | mk (I : Nat → Shared → Prop) (n : Nat) (h : I n s₂) (turn : ∀ k s', I k s' → wpAny (model prog w) A (pyNext it) (ForTurn prog w A env target body orelse Q (Again I k)) (fun _ _ => False) s')
theorem for_raw {target iter : Expr} {body orelse : List Stmt} {pos : Pos} {Q : Flow → Shared → Prop}
    (h : wpAny (model prog w) A (eval iter env) (fun xv s₁ => wpAny (model prog w) A (pyIter xv) (ForAt prog w A env target body orelse Q) (fun _ _ => False) s₁) (fun _ _ => False) s)
    (hs : ∀ x, foldedSetIterable iter env x = pure x := by intro _; rfl)
    (ht : ∀ it v, letOwnedTupleGo target it v = pure () := by intro _ _; rfl) :
    wpAny (model prog w) A (exec (.For target iter body orelse pos) env) Q (fun _ _ => False) s := by
  refine wpAny_For (wpAny_mono h (fun xv s₁ h₁ => wpAny_mono h₁ (fun it s₂ h₂ => ?_) fun _ _ z => z) fun _ _ z => z) hs
  obtain ⟨I, n, hn, turn⟩ := h₂
  refine codeAny_forLoop (R := fun r s' => match r with | .ok f => Q f s' | .error e => cameBackBy (model prog w) A env (fun _ _ => False) e s') I ?_ n hn (ht it)
  intro k s' hk
  refine wpAny_passesOwn PassesOwn.never (wpAny_mono (turn k s' hk) (fun r s₁ hr => ?_) fun _ _ z => z)
  cases r with
  | none => exact wpAny_passesOwn PassesOwn.never (wpAny_mono (hr : wpAny _ _ (execs orelse env) Q _ s₁) (fun _ _ z => z) fun _ _ z => z)
  | some y =>
    refine wpAny_passesOwn PassesOwn.never (wpAny_mono (hr : wpAny _ _ (assign target env y) _ _ s₁) (fun _ s₂ h₂ => ?_) fun _ _ z => z)
    refine wpAny_passesOwn PassesOwn.never (wpAny_mono h₂ (fun f s₃ h₃ => ?_) fun _ _ z => z)
    cases f with
    | next => exact h₃.elim'
    | cont => exact h₃.elim'
    | brk => exact h₃
    | ret _ => exact h₃
noncomputable def WhileTurn (prog : Program) (w : World) (A : Around) (env : Env) (body orelse : List Stmt) (Q : Flow → Shared → Prop) (rest : Shared → Prop) (b : Bool) (s₂ : Shared) : Prop := match b with
  | true => wpAny (model prog w) A (execs body env) (ForFlow Q rest) (fun _ _ => False) s₂
  | false => wpAny (model prog w) A (execs orelse env) Q (fun _ _ => False) s₂
theorem WhileTurn.of {body orelse : List Stmt} {Q : Flow → Shared → Prop} {rest : Shared → Prop} {b : Bool} (h1 : b = true → wpAny (model prog w) A (execs body env) (ForFlow Q rest) (fun _ _ => False) s) (h2 : b = false → wpAny (model prog w) A (execs orelse env) Q (fun _ _ => False) s) : WhileTurn prog w A env body orelse Q rest b s := by
  cases b with
  | true => exact h1 rfl
  | false => exact h2 rfl
theorem while_raw {test : Expr} {body orelse : List Stmt} {pos : Pos} {Q : Flow → Shared → Prop} (I : Nat → Shared → Prop) (n : Nat) (hn : I n s)
    (turn : ∀ k s', I k s' → wpAny (model prog w) A (isTrue test env (eval test env)) (WhileTurn prog w A env body orelse Q (Again I k)) (fun _ _ => False) s') :
    wpAny (model prog w) A (exec (.While test body orelse pos) env) Q (fun _ _ => False) s := by
  refine wpAny_While (codeAny_whileLoop (R := fun r s' => match r with | .ok f => Q f s' | .error e => cameBackBy (model prog w) A env (fun _ _ => False) e s') I ?_ n hn)
  intro k s' hk
  refine wpAny_passesOwn PassesOwn.never (wpAny_mono (turn k s' hk) (fun b s₂ hb => ?_) fun _ _ z => z)
  cases b with
  | false =>
    simp only [Bool.false_eq_true, if_false]
    exact wpAny_passesOwn PassesOwn.never (wpAny_mono (hb : wpAny _ _ (execs orelse env) Q _ s₂) (fun _ _ z => z) fun _ _ z => z)
  | true =>
    simp only [if_true]
    refine wpAny_passesOwn PassesOwn.never (wpAny_mono (hb : wpAny _ _ (execs body env) _ _ s₂) (fun f s₃ h₃ => ?_) fun _ _ z => z)
    cases f with
    | next => exact h₃.elim'
    | cont => exact h₃.elim'
    | brk => exact h₃
    | ret _ => exact h₃
noncomputable def IsIt (o : Obj) (l : Addr) (i : Nat) : Prop := o.cls = .type "list_iterator" ∧ o.data = .fields #[.ref l, .int i 0]
theorem fr_ext {h h' : Heap} {it : Addr} (F : Fr h₀ L h m) (k : Heap.ExtBut it h h') (hL : L ≠ it) (h0 : h₀.get? it = none) : Fr h₀ L h' m :=
  ⟨F.ns.at' fun o e => k L o hL e, fun b o e => k b o (fun q => by rw [q, h0] at e; cases e) (F.keep b o e), F.above⟩
theorem iter_list {l : Addr} {its : Array Value} {Q : Value → Shared → Prop} {E : Value → Shared → Prop} (F : Fr h₀ L s.heap m) (N : News h₀ L s.heap news) (hl : s.heap.IsList l its)
    (h : ∀ it oi h', IsIt oi l 0 → Fr h₀ L h' m → News h₀ L h' ((it, oi) :: news) → (∀ p ∈ news, p.1 < it) → GSub s.heap h' [] → Q (.ref it) { s with heap := h' }) : wpAny (model prog w) A (pyIter (.ref l)) Q E s :=
  wpAny_pyIter_list hl (h _ _ _ ⟨rfl, rfl⟩ (F.push _) (N.push F _) (fun p hp => Heap.lt_size (N p hp).1) fun b o e _ => Heap.get?_push_of_some _ e)
theorem next_list {l it : Addr} {oi : Obj} {its : Array Value} {i : Nat} {Q : Option Value → Shared → Prop} {E : Value → Shared → Prop} (hh : A.handled = none) (hi : IsIt oi l i) (F : Fr h₀ L s.heap m) (N : News h₀ L s.heap ((it, oi) :: news)) (off : ∀ p ∈ news, p.1 ≠ it) (hl : s.heap.IsList l its)
    (item : ∀ v oi' h', its[i]? = some v → IsIt oi' l (i + 1) → Fr h₀ L h' m → News h₀ L h' ((it, oi') :: news) → GSub s.heap h' [it] → Q (some v) { s with heap := h' })
    (done : ∀ h', its[i]? = none → Fr h₀ L h' m → News h₀ L h' news → GSub s.heap h' [it] → Q none { s with heap := h' }) : wpAny (model prog w) A (pyNext (.ref it)) Q E s := by
  have D := N _ List.mem_cons_self
  have hit : s.heap.IsListIter it l i := ⟨_, D.1, hi.1, hi.2⟩
  have gs : ∀ h', Heap.ExtBut it s.heap h' → GSub s.heap h' [it] := fun h' k b o e nb => k b o (fun q => nb (List.mem_singleton.mpr q)) e
  have nw : ∀ h', Heap.ExtBut it s.heap h' → News h₀ L h' news := fun h' k p hp => ⟨k _ _ (off p hp) (N p (List.mem_cons_of_mem _ hp)).1, (N p (List.mem_cons_of_mem _ hp)).2⟩
  cases hv : its[i]? with
  | none =>
    exact wpAny_pyNext_list_end hh hit hl hv fun h' k => done h' hv (fr_ext F k (Ne.symm D.2.1) D.2.2) (nw h' k) (gs h' k)
  | some v =>
    refine wpAny_pyNext_list_item hit hl hv fun h' hi' hs' => ?_
    obtain ⟨o', e', r'⟩ := hi'
    refine item v o' h' hv r' (fr_ext F hs'.extBut (Ne.symm D.2.1) D.2.2) (fun p hp => ?_) (gs h' hs'.extBut)
    rcases List.mem_cons.mp hp with rfl | hp
    · exact ⟨e', D.2⟩
    · exact nw h' hs'.extBut p hp
noncomputable abbrev rangeIt (x left : Int) : Obj := itR x left
theorem iter_range {r : Addr} {a b : Int} {t u v : Tok} {n : Int} {Q : Value → Shared → Prop} {E : Value → Shared → Prop} (F : Fr h₀ L s.heap m) (N : News h₀ L s.heap news) (hr : IsRange s.heap r a b 1 t u v) (hsmall : Builtin.Range.small a b 1 = true) (hn : Builtin.Range.rangeSize a b 1 = n)
    (h : ∀ it h', Fr h₀ L h' m → News h₀ L h' ((it, rangeIt a n) :: news) → (∀ p ∈ news, p.1 < it) → GSub s.heap h' [] → Q (.ref it) { s with heap := h' }) : wpAny (model prog w) A (pyIter (.ref r)) Q E s := by
  subst hn
  exact wpAny_pyIter_range hr hsmall (h _ _ (F.push _) (N.push F _) (fun p hp => Heap.lt_size (N p hp).1) fun b o e _ => Heap.get?_push_of_some _ e)
theorem next_range {it : Addr} {x left : Int} {Q : Option Value → Shared → Prop} {E : Value → Shared → Prop} (hh : A.handled = none) (F : Fr h₀ L s.heap m) (N : News h₀ L s.heap ((it, rangeIt x left) :: news)) (off : ∀ p ∈ news, p.1 ≠ it)
    (item : ∀ t h' tk', 0 < left → Fr h₀ L h' m → News h₀ L h' ((it, rangeIt (x + 1) (left - 1)) :: news) → GSub s.heap h' [it] → Q (some (.int x t)) { s with heap := h', toks := tk' })
    (done : ∀ h', left ≤ 0 → Fr h₀ L h' m → News h₀ L h' news → GSub s.heap h' [it] → Q none { s with heap := h' }) : wpAny (model prog w) A (pyNext (.ref it)) Q E s := by
  have D := N _ List.mem_cons_self
  have hit : IsRangeIter s.heap it x left 1 := D.1
  have gs : ∀ h', Heap.ExtBut it s.heap h' → GSub s.heap h' [it] := fun h' k b o e nb => k b o (fun q => nb (List.mem_singleton.mpr q)) e
  have nw : ∀ h', Heap.ExtBut it s.heap h' → News h₀ L h' news := fun h' k p hp => ⟨k _ _ (off p hp) (N p (List.mem_cons_of_mem _ hp)).1, (N p (List.mem_cons_of_mem _ hp)).2⟩
  by_cases hl : 0 < left
  · refine wpAny_pyNext_range_item hit hl fun h' hi' hs' => ?_
    refine item _ h' _ hl (fr_ext F hs'.extBut (Ne.symm D.2.1) D.2.2) (fun p hp => ?_) (gs h' hs'.extBut)
    rcases List.mem_cons.mp hp with rfl | hp
    · exact ⟨hi', D.2⟩
    · exact nw h' hs'.extBut p hp
  · exact wpAny_pyNext_range_end hh hit (Int.not_lt.mp hl) fun h' k => done h' (Int.not_lt.mp hl) (fr_ext F k (Ne.symm D.2.1) D.2.2) (nw h' k) (gs h' k)
noncomputable def IsStrIt (o : Obj) (x : Str) (t : Tok) (i : Nat) : Prop := o.cls = .type "str_ascii_iterator" ∧ o.data = .fields #[.str x t, .int i 0]
theorem iter_str {x : Str} {t : Tok} {Q : Value → Shared → Prop} {E : Value → Shared → Prop} (F : Fr h₀ L s.heap m) (N : News h₀ L s.heap news) (ha : x.cps.all (· < 128) = true)
    (h : ∀ it oi h', IsStrIt oi x t 0 → Fr h₀ L h' m → News h₀ L h' ((it, oi) :: news) → (∀ p ∈ news, p.1 < it) → GSub s.heap h' [] → Q (.ref it) { s with heap := h' }) : wpAny (model prog w) A (pyIter (.str x t)) Q E s :=
  wpAny_pyIter_ascii ha (h _ _ _ ⟨rfl, rfl⟩ (F.push _) (N.push F _) (fun p hp => Heap.lt_size (N p hp).1) fun b o e _ => Heap.get?_push_of_some _ e)
theorem next_str {it : Addr} {oi : Obj} {x : Str} {t : Tok} {i : Nat} {Q : Option Value → Shared → Prop} {E : Value → Shared → Prop} (hh : A.handled = none) (hi : IsStrIt oi x t i) (F : Fr h₀ L s.heap m) (N : News h₀ L s.heap ((it, oi) :: news)) (off : ∀ p ∈ news, p.1 ≠ it)
    (item : ∀ c oi' t' h' tk', x.cps[i]? = some c → IsStrIt oi' x t (i + 1) → Fr h₀ L h' m → News h₀ L h' ((it, oi') :: news) → GSub s.heap h' [it] → Q (some (.str ⟨#[c]⟩ t')) { s with heap := h', toks := tk' })
    (done : ∀ h', x.cps[i]? = none → Fr h₀ L h' m → News h₀ L h' news → GSub s.heap h' [it] → Q none { s with heap := h' }) : wpAny (model prog w) A (pyNext (.ref it)) Q E s := by
  have D := N _ List.mem_cons_self
  have hit : s.heap.IsStrIter it "str_ascii_iterator" x t i := ⟨_, D.1, hi.1, hi.2⟩
  have gs : ∀ h', Heap.ExtBut it s.heap h' → GSub s.heap h' [it] := fun h' k b o e nb => k b o (fun q => nb (List.mem_singleton.mpr q)) e
  have nw : ∀ h', Heap.ExtBut it s.heap h' → News h₀ L h' news := fun h' k p hp => ⟨k _ _ (off p hp) (N p (List.mem_cons_of_mem _ hp)).1, (N p (List.mem_cons_of_mem _ hp)).2⟩
  cases hv : x.cps[i]? with
  | none =>
    exact wpAny_pyNext_ascii_end hh hit hv fun h' k => done h' hv (fr_ext F k (Ne.symm D.2.1) D.2.2) (nw h' k) (gs h' k)
  | some c =>
    refine wpAny_pyNext_ascii_item hit hv fun h' hi' hs' => ?_
    obtain ⟨o', e', r'⟩ := hi'
    refine item c o' _ h' _ hv r' (fr_ext F hs'.extBut (Ne.symm D.2.1) D.2.2) (fun p hp => ?_) (gs h' hs'.extBut)
    rcases List.mem_cons.mp hp with rfl | hp
    · exact ⟨e', D.2⟩
    · exact nw h' hs'.extBut p hp
theorem comp_rest {elt : Expr} {x : Str} {scope : Scope} {cl : List (Str × Addr)} {S : List (Addr × Obj) → Prop} {P : Nat → Value → Prop} {Fin : List Value → List (Addr × Obj) → Prop} {n : Nat} (J : Nat → List Value → List (Addr × Obj) → Prop) (hj : J 0 [] news)
    (turn : ∀ i v I oI C oC D m₂ h tk (E' : Value → Shared → Prop), i < n → ∀ ys nw, J i ys nw → P i v → LCg.NsObj oC m₂ → m₂ x = some v → Fr h₀ L h m → News h₀ L h ((I, oI) :: (C, oC) :: (D, LCg.lst ys) :: nw) → LCg.Off3 I C D nw → ((@Ne Nat I C) ∧ (@Ne Nat I D) ∧ (@Ne Nat C D)) →
      wpAny (model prog w) A (eval elt (compEnvC scope cl C env)) (LCg.CompEnd h₀ L m { s with heap := h, toks := tk } I oI C oC D (LCg.lst ys) S (fun y nw' => J (i + 1) (ys ++ [y]) nw')) E' { s with heap := h, toks := tk })
    (fin : ∀ ys nw, J n ys nw → Fin ys nw) : LCg.CompRest prog w A h₀ L m env elt x scope cl s S P Fin n 0 [] news := by
  have key : ∀ (j i : Nat) (ys : List Value) (nw : List (Addr × Obj)), i + j = n → J i ys nw → LCg.CompRest prog w A h₀ L m env elt x scope cl s S P Fin j i ys nw := by
    intro j
    induction j with
    | zero =>
      intro i ys nw hi hy
      have e : i = n := by omega
      subst e
      exact LCg.CompRest.zero (fin ys nw hy)
    | succ j ih =>
      intro i ys nw hi hy
      refine LCg.CompRest.succ ?_
      intro v I oI C oC D m₂ h tk E' hv hC hx F N off ne
      refine wpAny_mono (turn i v I oI C oC D m₂ h tk E' (by omega) ys nw hy hv hC hx F N off ne) (fun y s₂ hq => ?_) fun _ _ e => e
      obtain ⟨h', tk', nw', e, F', N', off', hS, hn⟩ := hq
      exact ⟨h', tk', nw', e, F', N', off', hS, ih (i + 1) _ nw' (by omega) hn⟩
  exact key n 0 [] news (by omega) hj
noncomputable def StrSrc (prog : Program) (w : World) (A : Around) (h₀ : Heap) (L : Addr) (m : Str → Option Value) (env : Env) (elt : Expr) (x : Str) (scope : Scope) (cl : List (Str × Addr)) (Fin : Shared → List Value → List (Addr × Obj) → Prop) (xv : Value) (s₁ : Shared) : Prop :=
  ∃ y t news, xv = .str y t ∧ A.handled = none ∧ Fr h₀ L s₁.heap m ∧ News h₀ L s₁.heap news ∧ y.cps.all (· < 128) = true ∧ y.cps.size ≤ sizeLine ∧
    ∀ s₂ : Shared, (∃ h, s₂ = { s₁ with heap := h }) → LCg.CompRest prog w A h₀ L m env elt x scope cl s₂ (fun _ => True) (SignAt y) (Fin s₂) y.cps.size 0 [] news
theorem comp_str {elt iter : Expr} {x : Str} {px : Pos} {scope : Scope} {cl : List (Str × Addr)} {pos : Pos} {Q : Value → Shared → Prop} {E : Value → Shared → Prop} (_F₀ : Fr h₀ L s.heap m)
    (hclos : closureFor scope env = pure cl) (hcell : ∀ y ∈ scope.names, y.2 ≠ .cell) (hkind : scope.kind = .function)
    (hnames : ∀ y ∈ scope.names, y.2 = .local → scope.names.lookup y.1 = some .local) (hx : scope.names.lookup x = some .local)
    (h : wpAny (model prog w) A (eval iter env) (StrSrc prog w A h₀ L m env elt x scope cl (fun s₂ => LCg.FinE h₀ L m s₂ Q)) E s)
    (hs : ∀ x, foldedSetIterable iter env x = pure x := by intro _; rfl) :
    wpAny (model prog w) A (eval (.ListComp elt [⟨.Name x px, iter, [], 0⟩] scope pos) env) Q E s := by
  show wpAny (model prog w) A (comprehension (.ListComp elt [⟨.Name x px, iter, [], 0⟩] scope pos) scope env (firstIterPos [⟨.Name x px, iter, [], 0⟩] pos) (newList []) false (eval iter env)) Q E s
  refine wpAny_comprehension_free (use := none) rfl hs hclos hkind hnames (wpAny_mono h (fun xv s₁ h₁ => ?_) fun _ _ e => e)
  obtain ⟨y, t, news, rfl, hh, F, N, ha, hsz, R⟩ := h₁
  refine wpAny_pyIter_ascii ha ?_
  have up : ∀ b o, s₁.heap.get? b = some o → (s₁.heap.push { cls := .type "str_ascii_iterator", data := .fields #[.str y t, .int 0 0] }).get? b = some o := fun b o e => Heap.get?_push_of_some _ e
  refine LCg.block_U (Walks.strAscii hh s₁.heap.objs.size y t) hsz (fun i h st => by obtain ⟨o, e, _⟩ := st; exact ⟨o, e⟩)
    (fun i h h' o nw st e e' _ _ _ => by obtain ⟨o', q, r⟩ := st; rw [e] at q; cases q; exact ⟨o, e', r⟩) hcell hkind hx ⟨_, Heap.get?_push_size _ rfl, rfl, rfl⟩ (fun b hb => ?_)
    (F.keeps up) (N.grown up) (Nat.ne_of_lt F.ns.lt) (next_is_new F) (fun p hp => Nat.ne_of_lt (Heap.lt_size (N p hp).1)) trivial (R _ ⟨_, rfl⟩) ?_
  · rw [List.mem_singleton.mp hb]
    show s₁.heap.objs.size < (s₁.heap.push _).objs.size
    rw [Heap.size_push]; exact Nat.lt_succ_self _
  · intro D C h tk m' ys news' F' N' o1 hn hC₀ hD₀ hCL hDL hCD offC fin
    refine ⟨m', hn, fun h'' hs'' => fin D h'' tk (F'.change hs'' hCL hC₀) (fun p hp => ?_) o1⟩
    refine ⟨hs''.extBut _ _ ?_ (N' p hp).1, (N' p hp).2⟩
    rcases List.mem_cons.mp hp with rfl | hp
    · exact Ne.symm hCD
    · exact offC p hp
theorem fr_map {m' : Str → Option Value} {h : Heap} (F : Fr h₀ L h m') (ps : List (Str × Value)) (hp : ∀ p ∈ ps, m' p.1 = some p.2) : Fr h₀ L h (kstB m' ps) := by
  have : kstB m' ps = m' := funext fun z => kstB_eq hp fun _ => rfl
  rw [this]; exact F
theorem fr_map1 {m' : Str → Option Value} {h : Heap} (F : Fr h₀ L h m') (x : Str) {v : Value} (hx : m' x = some v) : Fr h₀ L h (fun z => if z = x then some v else m' z) :=
  fr_map F [(x, v)] (List.forall_mem_cons.mpr ⟨hx, fun _ h => nomatch h⟩)
theorem fr_map2 {m' : Str → Option Value} {h : Heap} (F : Fr h₀ L h m') (x y : Str) {v u : Value} (hx : m' x = some v) (hy : m' y = some u) : Fr h₀ L h (fun z => if z = x then some v else if z = y then some u else m' z) :=
  fr_map F [(x, v), (y, u)] (List.forall_mem_cons.mpr ⟨hx, List.forall_mem_cons.mpr ⟨hy, fun _ h => nomatch h⟩⟩)
theorem fr_map3 {m' : Str → Option Value} {h : Heap} (F : Fr h₀ L h m') (x y z : Str) {v u t : Value} (hx : m' x = some v) (hy : m' y = some u) (hz : m' z = some t) : Fr h₀ L h (fun q => if q = x then some v else if q = y then some u else if q = z then some t else m' q) :=
  fr_map F [(x, v), (y, u), (z, t)] (List.forall_mem_cons.mpr ⟨hx, List.forall_mem_cons.mpr ⟨hy, List.forall_mem_cons.mpr ⟨hz, fun _ h => nomatch h⟩⟩⟩)
theorem fr_map5 {m' : Str → Option Value} {h : Heap} (F : Fr h₀ L h m') (x y z r t : Str) {v1 v2 v3 v4 v5 : Value} (h1 : m' x = some v1) (h2 : m' y = some v2) (h3 : m' z = some v3) (h4 : m' r = some v4) (h5 : m' t = some v5) : Fr h₀ L h (fun q => if q = x then some v1 else if q = y then some v2 else if q = z then some v3 else if q = r then some v4 else if q = t then some v5 else m' q) :=
  fr_map F [(x, v1), (y, v2), (z, v3), (r, v4), (t, v5)] (List.forall_mem_cons.mpr ⟨h1, List.forall_mem_cons.mpr ⟨h2, List.forall_mem_cons.mpr ⟨h3, List.forall_mem_cons.mpr ⟨h4, List.forall_mem_cons.mpr ⟨h5, fun _ h => nomatch h⟩⟩⟩⟩⟩)
end
end
section
open PySem PySem.W PyProof.Rows PySem.Calls PyProof.V
noncomputable def nameS (q : Nat) : Str := (["OPTIMIZED", "NEWLOCALS", "VARARGS", "VARKEYWORDS", "NESTED", "GENERATOR", "NOFREE", "COROUTINE", "ITERABLE_COROUTINE", "ASYNC_GENERATOR", "0x400", "0x800", "0x1000", "0x2000", "0x4000", "0x8000"] : List Str).getD q Str.empty
/-- the names of the bits of n below i, the least first -/
noncomputable def namesTo (n i : Nat) : List Str := ((List.range i).filter n.testBit).map nameS
theorem namesTo_succ (n i : Nat) : namesTo n (i + 1) = namesTo n i ++ (if n.testBit i then [nameS i] else []) := by
  unfold namesTo
  rw [List.range_succ, List.filter_append, List.map_append]
  by_cases h : n.testBit i <;> simp [h]
theorem hex_size : ∀ i : Nat, i < 33 → (baseText "0x" 16 (1 * 2 ^ ((i : Nat) : Int).toNat)).length ≤ 100 := by decide +kernel
theorem hex_zero : (baseText "0x" 16 0).length ≤ 100 := by decide +kernel
noncomputable def flagD : List (Int × PyData) := [(1, .str "OPTIMIZED"), (2, .str "NEWLOCALS"), (4, .str "VARARGS"), (8, .str "VARKEYWORDS"), (16, .str "NESTED"), (32, .str "GENERATOR"), (64, .str "NOFREE"), (128, .str "COROUTINE"), (256, .str "ITERABLE_COROUTINE"), (512, .str "ASYNC_GENERATOR")]
theorem flag_look : ∀ i : Nat, i < 16 → (PySem.Spec.lookup (.int (1 * 2 ^ ((i : Nat) : Int).toNat)) (flagD.map fun p => (PyData.int p.1, p.2))).getD (.str (baseText "0x" 16 (1 * 2 ^ ((i : Nat) : Int).toNat))) = .str (nameS i)
  | 0, _ => by kernel_rfl
  | 1, _ => by kernel_rfl
  | 2, _ => by kernel_rfl
  | 3, _ => by kernel_rfl
  | 4, _ => by kernel_rfl
  | 5, _ => by kernel_rfl
  | 6, _ => by kernel_rfl
  | 7, _ => by kernel_rfl
  | 8, _ => by kernel_rfl
  | 9, _ => by kernel_rfl
  | 10, _ => by kernel_rfl
  | 11, _ => by kernel_rfl
  | 12, _ => by kernel_rfl
  | 13, _ => by kernel_rfl
  | 14, _ => by kernel_rfl
  | 15, _ => by kernel_rfl
  | i + 16, h => absurd h (by omega)
section
variable {prog : Program} {w : World} {A : Around} {E : Value → Shared → Prop} {s : Shared}
theorem flag_get {g : Heap} {i : Nat} {t u : Tok} {Q : Value → Shared → Prop} (X : (hd.heap_1 w.params).In g) (k : ∀ b o, g.get? b = some o → s.heap.get? b = some o) {z : Int} (hz : z ≠ 0 → i < 16) (hb : z ≠ 0)
    (h : ∀ t' tk', Q (.str (nameS i) t') { s with toks := tk' }) : wpAny (model prog w) A (call (.builtin "dict.get") [.ref 15, .int (1 * 2 ^ ((i : Nat) : Int).toNat) t, .str (baseText "0x" 16 (1 * 2 ^ ((i : Nat) : Int).toNat)) u]) Q E s := by
  have K : KTD.Keyed g 15 flagD := kt_keyed_in X (by kernel_rfl)
  refine call_get2_intTab (K.keep k prog w) (.str _ _) fun v hv => ?_
  have e := flag_look i (hz hb)
  rw [e] at hv
  obtain ⟨t', rfl⟩ := Flat.str_inv hv
  exact h t' _
end
theorem and_pow (n i : Nat) : Builtin.bitAnd ((n / 2 ^ i * 2 ^ i : Nat) : Int) (1 * 2 ^ ((i : Nat) : Int).toNat) = if n.testBit i then ((2 ^ i : Nat) : Int) else 0 := by
  have e : (1 * 2 ^ ((i : Nat) : Int).toNat : Int) = ((2 ^ i : Nat) : Int) := by simp
  rw [e, bitAnd_pp (Int.natCast_nonneg _) (Int.natCast_nonneg _)]
  simp only [Int.toNat_natCast]
  have h2 : (n / 2 ^ i * 2 ^ i) &&& 2 ^ i = if n.testBit i then 2 ^ i else 0 := by
    apply Nat.eq_of_testBit_eq
    intro j
    rw [Nat.testBit_and, Nat.testBit_two_pow]
    by_cases hj : i = j
    · subst hj
      have : (n / 2 ^ i * 2 ^ i).testBit i = n.testBit i := by
        rw [Nat.testBit_eq_decide_div_mod_eq, Nat.testBit_eq_decide_div_mod_eq, Nat.mul_div_cancel _ (Nat.two_pow_pos i)]
      rw [this]
      by_cases hb : n.testBit i <;> simp [hb]
    · by_cases hb : n.testBit i <;> simp [hb, hj]
  rw [h2]
  by_cases hb : n.testBit i <;> simp [hb]
theorem bit_iff (n i : Nat) : Builtin.bitAnd ((n / 2 ^ i * 2 ^ i : Nat) : Int) (1 * 2 ^ ((i : Nat) : Int).toNat) ≠ 0 ↔ n.testBit i = true := by
  rw [and_pow]
  have := Nat.two_pow_pos i
  by_cases hb : n.testBit i
  · simp only [hb, if_true]; constructor
    · intro _; trivial
    · intro _; omega
  · simp [hb]
theorem next_set {n i : Nat} (hb : n.testBit i = true) : Builtin.bitXor ((n / 2 ^ i * 2 ^ i : Nat) : Int) (1 * 2 ^ ((i : Nat) : Int).toNat) = ((n / 2 ^ (i + 1) * 2 ^ (i + 1) : Nat) : Int) := by
  rw [bitXor_and, and_pow, hb, if_pos rfl]
  have e : (1 * 2 ^ ((i : Nat) : Int).toNat : Int) = ((2 ^ i : Nat) : Int) := by simp
  rw [e]
  rw [Nat.testBit_eq_decide_div_mod_eq] at hb
  have hb := of_decide_eq_true hb
  have h1 : n / 2 ^ (i + 1) = n / 2 ^ i / 2 := by rw [Nat.pow_succ, Nat.div_div_eq_div_mul]
  rw [h1, Nat.pow_succ]
  generalize n / 2 ^ i = q at hb
  obtain ⟨r, rfl⟩ : ∃ r, q = 2 * r + 1 := ⟨q / 2, by omega⟩
  have h2 : (2 * r + 1) / 2 = r := by omega
  rw [h2]
  generalize 2 ^ i = z
  have h3 : (2 * r + 1) * z = r * (z * 2) + z := by rw [Nat.add_mul, Nat.one_mul, Nat.mul_comm z 2, ← Nat.mul_assoc, Nat.mul_comm r 2]
  rw [h3]; omega
theorem next_clear {n i : Nat} (hb : n.testBit i = false) : n / 2 ^ i * 2 ^ i = n / 2 ^ (i + 1) * 2 ^ (i + 1) := by
  rw [Nat.testBit_eq_decide_div_mod_eq] at hb
  have hb := of_decide_eq_false hb
  have h1 : n / 2 ^ (i + 1) = n / 2 ^ i / 2 := by rw [Nat.pow_succ, Nat.div_div_eq_div_mul]
  rw [h1, Nat.pow_succ]
  generalize n / 2 ^ i = q at hb
  obtain ⟨r, rfl⟩ : ∃ r, q = 2 * r := ⟨q / 2, by omega⟩
  have h2 : (2 * r) / 2 = r := by omega
  rw [h2, Nat.mul_comm (2 ^ i) 2, ← Nat.mul_assoc, Nat.mul_comm r 2]
end
section
open PySem PySem.W PyProof.Rows PySem.Calls PyProof.V
noncomputable def strOf (l : List Nat) : Str := ⟨l.toArray⟩
theorem strOf_append (l k : List Nat) : strOf l ++ strOf k = strOf (l ++ k) := by
  apply Str.ext'
  rw [Str.cps_append]; simp [strOf]
theorem strOf_length (l : List Nat) : (strOf l).length = l.length := by simp [strOf, Str.length]
theorem strOf_one (c : Nat) : (⟨#[c]⟩ : Str) = strOf [c] := rfl
theorem lit_empty : Str.ofString "" = strOf [] := by decide +kernel
theorem lit_quote : Str.ofString "\"" = strOf [34] := by decide +kernel
theorem lit_newline : Str.ofString "\n" = strOf [10] := by decide +kernel
theorem lit_back : Str.ofString "\\" = strOf [92] := by decide +kernel
theorem join_none : ∀ xs : List (List Nat), Txt.join (Str.ofString "") (xs.map strOf) = strOf xs.flatten := by
  intro xs
  show Builtin.Str.glued _ _ = _
  rw [StrLaws.glued_eq_join, lit_empty]
  induction xs with
  | nil => rfl
  | cons x r ih =>
    cases r with
    | nil => show strOf x = _; simp
    | cons y r =>
      show strOf x ++ strOf [] ++ Str.join (strOf []) (List.map strOf (y :: r)) = _
      rw [ih, strOf_append, strOf_append]; simp
theorem strOf_inj {l k : List Nat} (h : strOf l = strOf k) : l = k := by
  have := congrArg (fun x : Str => x.cps.toList) h
  simpa [strOf] using this
theorem strOf_beq (l k : List Nat) : (strOf l == strOf k) = (l == k) := by
  by_cases h : l = k
  · subst h; rw [beq_self_eq_true]; simp
  · have h2 : strOf l ≠ strOf k := fun e => h (strOf_inj e)
    rw [beq_eq_false_iff_ne.mpr h2, beq_eq_false_iff_ne.mpr h]
/-- a comprehension whose turns leave the ledger as it was -/
inductive SameJ (all : List (Addr × Obj)) (f : Nat → List Str) (i : Nat) (ys : List Value) : List (Addr × Obj) → Prop
  | mk (h : StrsAre ys (f i)) : SameJ all f i ys all
set_option autoImplicit false in
theorem SameJ.all {all : List (Addr × Obj)} {f : Nat → List Str} {i : Nat} {ys : List Value} {P : List (Addr × Obj) → Prop} (h : ∀ (h : StrsAre ys (f i)), P all) : ∀ (x0 : List (Addr × Obj)), SameJ all f i ys x0 → P x0 :=
  fun _ t => SameJ.rec (motive := fun x0 _ => P x0) h t
inductive SameI (all : List (Addr × Obj)) (f : Nat → List Int) (i : Nat) (ys : List Value) : List (Addr × Obj) → Prop
  | mk (h : IntsAre ys (f i)) : SameI all f i ys all
set_option autoImplicit false in
theorem SameI.all {all : List (Addr × Obj)} {f : Nat → List Int} {i : Nat} {ys : List Value} {P : List (Addr × Obj) → Prop} (h : ∀ (h : IntsAre ys (f i)), P all) : ∀ (x0 : List (Addr × Obj)), SameI all f i ys x0 → P x0 :=
  fun _ t => SameI.rec (motive := fun x0 _ => P x0) h t
end
local macro_rules | `(tactic| omega) => `(tactic| k_extra "omega")
local macro_rules | `(tactic| k_room) => `(tactic| ktr_room)
local macro_rules | `(tactic| k_units) => `(tactic| ktr_units)
local macro_rules | `(tactic| ktr_room) => `(tactic| k_extra "mine ktr_room")
local macro_rules | `(tactic| ktr_units) => `(tactic| k_extra "mine ktr_units")
local macro_rules | `(tactic| walk_at $s:str) => `(tactic| k_extra $s)
section
theorem name_size : ∀ q : Nat, q < 16 → (Str.ofString "0x" ++ Txt.item (Str.ofString "1248") ((q : Int).fmod 4)).length + (Txt.mul (Str.ofString "0") ((q : Int).fdiv 4)).length ≤ 100 := by decide +kernel
theorem name_lo : ∀ q : Nat, q < 10 → ([Str.ofString "OPTIMIZED", Str.ofString "NEWLOCALS", Str.ofString "VARARGS", Str.ofString "VARKEYWORDS", Str.ofString "NESTED", Str.ofString "GENERATOR", Str.ofString "NOFREE", Str.ofString "COROUTINE", Str.ofString "ITERABLE_COROUTINE", Str.ofString "ASYNC_GENERATOR"] : List Str).getD (q : Int).toNat Str.empty = nameS q := by decide +kernel
theorem name_hi : ∀ q : Nat, q < 16 → ¬ (q < 10) → Str.ofString "0x" ++ Txt.item (Str.ofString "1248") ((q : Int).fmod 4) ++ Txt.mul (Str.ofString "0") ((q : Int).fdiv 4) = nameS q := by decide +kernel
theorem words_name_spec : True := by
  w_top off
  k_with_none
  k_with "mine ktr_room" => ((try simp only [depth_under_make, depth_under_kw, depth_in1, depth_deeper, depth_caller]); (try dsimp only [ktrTop]); first | decide | omega)
  k_with "mine ktr_units" => ((try simp only [units_in1, units_deeper, Around.mark_units, units_caller]); (try dsimp only [ktrTop]); first | (rw [cLine_is]; decide) | omega)
  k_with "binaryOp Add str str" => (refine PyProof.Rows.add_str (hsz := ?hszq) ?_; (case hszq => assumption); intro _ _)
  k_with "mine enter" => (k_dflt (refine' enter_plain ?k1 ?k2 ?k3 ?k4 ?k5 ?kA ?kF ?kK ?k6 ?k7 ?k8 ?k9 ?kB ?hr ?_ ?c2 ?c3 ?c4 ?c5; (case kA => exact rfl); (case kF => exact rfl); (case kK => assumption); (case k1 => k_asm); (case k2 => k_asm); (case k3 => k_asm); (case k4 => k_asm); (case k5 => k_asm); (case k6 => k_is); (case k7 => k_is); (case k8 => ktr_room); (case k9 => exact BindsTo.of_eq rfl); (case c5 => decide); (case kB => exact locs rfl); (case hr => assumption); (case c2 => exact rfl); (case c3 => exact rfl); (case c4 => exact rfl); k_whole; intro g' L' h9w FG' F9w N9w B' X' T' kG'; (try dsimp only); (try k_fold)))
  k_with "lt0" => (first | with_reducible assumption | exact And.left (by with_reducible assumption) | exact And.left (And.right (by with_reducible assumption)) | exact And.left (And.right (And.right (by with_reducible assumption))) | exact And.left (And.right (And.right (And.right (by with_reducible assumption)))) | exact And.left (And.right (And.right (And.right (And.right (by with_reducible assumption))))) | exact And.left (And.right (And.right (And.right (And.right (And.right (by with_reducible assumption)))))) | exact And.left (And.right (And.right (And.right (And.right (And.right (And.right (by with_reducible assumption))))))) | exact And.left (And.right (And.right (And.right (And.right (And.right (And.right (And.right (by with_reducible assumption)))))))) | exact And.left (And.right (And.right (And.right (And.right (And.right (And.right (And.right (And.right (by with_reducible assumption))))))))) | exact And.left (And.right (And.right (And.right (And.right (And.right (And.right (And.right (And.right (And.right (by with_reducible assumption)))))))))) | exact And.left (And.right (And.right (And.right (And.right (And.right (And.right (And.right (And.right (And.right (And.right (by with_reducible assumption))))))))))) | exact And.left (And.right (And.right (And.right (And.right (And.right (And.right (And.right (And.right (And.right (And.right (And.right (by with_reducible assumption)))))))))))) | exact And.right (by with_reducible assumption) | exact And.right (And.right (by with_reducible assumption)) | exact And.right (And.right (And.right (by with_reducible assumption))) | exact And.right (And.right (And.right (And.right (by with_reducible assumption)))) | exact And.right (And.right (And.right (And.right (And.right (by with_reducible assumption))))) | exact And.right (And.right (And.right (And.right (And.right (And.right (by with_reducible assumption)))))) | exact And.right (And.right (And.right (And.right (And.right (And.right (And.right (by with_reducible assumption))))))) | exact And.right (And.right (And.right (And.right (And.right (And.right (And.right (And.right (by with_reducible assumption)))))))) | exact And.right (And.right (And.right (And.right (And.right (And.right (And.right (And.right (And.right (by with_reducible assumption))))))))) | exact And.right (And.right (And.right (And.right (And.right (And.right (And.right (And.right (And.right (And.right (by with_reducible assumption)))))))))) | exact And.right (And.right (And.right (And.right (And.right (And.right (And.right (And.right (And.right (And.right (And.right (by with_reducible assumption))))))))))) | exact nat_lt1 _)
  k_with "ch" => (first | with_reducible assumption | (refine Nat.lt_trans (by with_reducible assumption) ?_; k_extra "ch"))
  k_with "lt" => (first | k_extra "lt0" | exact nat_ltS (by k_extra "lt0") | exact nat_ltS (nat_ltS (by k_extra "lt0")) | exact nat_ltS (nat_ltS (nat_ltS (by k_extra "lt0"))) | exact nat_ltS (nat_ltS (nat_ltS (nat_ltS (by k_extra "lt0")))) | exact nat_ltS (nat_ltS (nat_ltS (nat_ltS (nat_ltS (by k_extra "lt0"))))) | exact nat_ltS (nat_ltS (nat_ltS (nat_ltS (nat_ltS (nat_ltS (by k_extra "lt0")))))) | exact nat_ltS (nat_ltS (nat_ltS (nat_ltS (nat_ltS (nat_ltS (nat_ltS (by k_extra "lt0"))))))) | exact nat_ltS (nat_ltS (nat_ltS (nat_ltS (nat_ltS (nat_ltS (nat_ltS (nat_ltS (by k_extra "lt0")))))))) | k_extra "ch")
  k_with "omega" => (first
    | with_reducible assumption
    | exact Nat.ne_of_lt (by with_reducible assumption) | exact Nat.ne_of_gt (by with_reducible assumption)
    | exact nat_room2 (by with_reducible assumption) (by rfl) | exact nat_room1 (by with_reducible assumption) (by rfl) | exact nat_room3 (by with_reducible assumption) (by rfl) | exact nat_room0 (by with_reducible assumption)
    | exact nat_meas (by with_reducible assumption) | exact nat_meas (Nat.lt_succ_of_lt (by with_reducible assumption))
    | exact c_low (by with_reducible assumption) (by rfl) | exact c_high (by with_reducible assumption) (by rfl) | exact c_lt (by with_reducible assumption) (by rfl)
    | exact Nat.succ_le_of_lt (by with_reducible assumption) | exact Nat.lt_succ_of_le (by with_reducible assumption)
    | exact Int.ofNat_lt.mpr (by with_reducible assumption)
    | exact Nat.ne_of_lt (by k_extra "lt") | exact Nat.ne_of_gt (by k_extra "lt") | k_extra "lt"
    | exact Nat.le_trans (by with_reducible assumption) (by decide)
    | decide)
  exact True.intro
set_option maxRecDepth 100000 in
set_option maxHeartbeats 8000000 in
theorem name_spec (w : World) (p : Program) (loose : List Str) (mean : ExcName → Option Value) (mg mb : Str → Option Value) (q : Nat) (t : Tok) (h1 : q < 16) :
   Claim w p loose mean mg mb 104 1 [] [.int (q : Int) t] (fun _ => True) (ValRet fun t => .str (nameS q) t) := by
  have hs : (Str.ofString "0x" ++ Txt.item (Str.ofString "1248") ((q : Int).fmod 4)).length + (Txt.mul (Str.ofString "0") ((q : Int).fdiv 4)).length ≤ sizeLine := by
    have := name_size q h1
    rw [PySem.sizeLine_eq]; omega
  dsimp only [Claim, PR]
  k_fill
  intros
  rename_i hret
  refine wpAny_call ?_
  walk_at "mine enter"
  k_steps
  · refine Done.intro (by assumption) (by assumption) [] (fun _ h => nomatch h) (ValRet.of (t := _) (congrArg (Value.str · _) (name_lo q (by omega))))
  · skip
    refine Done.intro (by assumption) (by assumption) [] (fun _ h => nomatch h) (ValRet.of (t := _) (congrArg (Value.str · _) (name_hi q h1 (by omega))))
end
section
theorem namesTo_length (n i : Nat) : (namesTo n i).length ≤ i := by
  unfold namesTo
  rw [List.length_map]
  exact Nat.le_trans (List.length_filter_le _ _) (by rw [List.length_range]; exact Nat.le_refl _)
theorem nameS_length (q : Nat) : (nameS q).length ≤ 20 := by
  by_cases h : q < 16
  · revert q; decide +kernel
  · unfold nameS
    rw [List.getD_eq_getElem?_getD, List.getElem?_eq_none (by simpa using h)]
    decide
theorem namesTo_weight (n : Nat) : ∀ i, ((namesTo n i).map (·.length)).sum ≤ 20 * i
  | 0 => Nat.le_refl _
  | i + 1 => by
    rw [namesTo_succ, List.map_append, List.sum_append]
    have h1 := namesTo_weight n i
    have h2 := nameS_length i
    by_cases hb : n.testBit i
    · simp only [hb, if_true, List.map_cons, List.map_nil, List.sum_cons, List.sum_nil]; omega
    · simp only [hb, Bool.false_eq_true, if_false, List.map_nil, List.sum_nil]; omega
theorem namesTo_top {n a : Nat} (h : n < 2 ^ a) : ∀ j, namesTo n (a + j) = namesTo n a
  | 0 => rfl
  | j + 1 => by
    rw [← Nat.add_assoc, namesTo_succ, namesTo_top h j, Nat.testBit_lt_two_pow (Nat.lt_of_lt_of_le h (Nat.pow_le_pow_right (by decide) (by omega)))]; simp
noncomputable def prettyS (n : Nat) : Str := if n = 0 then "0x0" else Txt.join ", " (namesTo n 16)
set_option inductive.autoPromoteIndices false in
set_option autoImplicit false in
inductive PrI (g : Heap) (L1 : Addr) (s : Shared) (n : Nat) (it nl : Addr)  : Nat → Shared → Prop
  | mk (i : Nat) (h : Heap) (tk : Nat) (u : Str → Option Value) (tf : Tok) (vs : List Value) (ne : Nat) (c0 : i ≤ 32) (c1 : Fr g L1 h (fun z => if z = Str.ofString "flags" then some (.int ((n / 2 ^ i * 2 ^ i : Nat) : Int) tf) else if z = Str.ofString "names" then some (.ref nl) else u z)) (c2 : News g L1 h [(it, rangeIt (i : Int) (32 - (i : Int))), (nl, W.listOf vs.toArray ne)]) (c3 : StrsAre vs (namesTo n i)) (c4 : (n / 2 ^ i ≠ 0 ∨ n = 0)) : PrI g L1 s n it nl (32 - i) ({ s with heap := h, toks := tk })
set_option autoImplicit false in
theorem PrI.all {g : Heap} {L1 : Addr} {s : Shared} {n : Nat} {it : Addr} {nl : Addr} {P : Nat → Shared → Prop} (h : ∀ (i : Nat) (h : Heap) (tk : Nat) (u : Str → Option Value) (tf : Tok) (vs : List Value) (ne : Nat) (c0 : i ≤ 32) (c1 : Fr g L1 h (fun z => if z = Str.ofString "flags" then some (.int ((n / 2 ^ i * 2 ^ i : Nat) : Int) tf) else if z = Str.ofString "names" then some (.ref nl) else u z)) (c2 : News g L1 h [(it, rangeIt (i : Int) (32 - (i : Int))), (nl, W.listOf vs.toArray ne)]) (c3 : StrsAre vs (namesTo n i)) (c4 : (n / 2 ^ i ≠ 0 ∨ n = 0)), P (32 - i) ({ s with heap := h, toks := tk })) : ∀ (x0 : Nat) (x1 : Shared), PrI g L1 s n it nl x0 x1 → P x0 x1 :=
  fun _ _ t => PrI.rec (motive := fun x0 x1 _ => P x0 x1) h t
theorem words_pretty_spec : True := by
  w_top off
  k_with_none
  k_with "mine ktr_room" => ((try simp only [depth_under_make, depth_under_kw, depth_in1, depth_deeper, depth_caller]); (try dsimp only [ktrTop]); first | decide | omega)
  k_with "mine ktr_units" => ((try simp only [units_in1, units_deeper, Around.mark_units, units_caller]); (try dsimp only [ktrTop]); first | (rw [cLine_is]; decide) | omega)
  k_with "binaryOp Add str str" => (refine PyProof.Rows.add_str (hsz := ?hszq) ?_; (case hszq => assumption); intro _ _)
  k_with "call builtin:hex" => (refine P.hex_of_int ?_ (hsz := ?hszq); (case hszq => assumption))
  k_with "call builtin:list.append" => (k_here; (with_reducible show wpAny _ _ (call (Value.builtin _) [Value.ref _, _]) _ _ _); k_dflt (refine' append_K ?k1 ?k2 ?k3 ?_ ?z; (case k1 => k_asm); (case k2 => k_asm); (case k3 => k_upd); (case z => assumption); k_whole); intro h9w F9w N9w; (try k_sweep))
  k_with "call builtin:dict.get" => (k_here; k_dflt (refine' flag_get ?k1 ?k2 ?k3 ?k4 ?_; (case k1 => k_asm); (case k2 => exact Fr.keep (by with_reducible assumption)); (case k3 => assumption); (case k4 => assumption)); intro t9w tk9w)
  k_with "mine enter" => (k_dflt (refine' enter_plain ?k1 ?k2 ?k3 ?k4 ?k5 ?kA ?kF ?kK ?k6 ?k7 ?k8 ?k9 ?kB ?hr ?_ ?c2 ?c3 ?c4 ?c5; (case kA => exact rfl); (case kF => exact rfl); (case kK => assumption); (case k1 => k_asm); (case k2 => k_asm); (case k3 => k_asm); (case k4 => k_asm); (case k5 => k_asm); (case k6 => k_is); (case k7 => k_is); (case k8 => ktr_room); (case k9 => exact BindsTo.of_eq rfl); (case c5 => decide); (case kB => exact locs rfl); (case hr => assumption); (case c2 => exact rfl); (case c3 => exact rfl); (case c4 => exact rfl); k_whole))
  k_with "lt0" => (first | with_reducible assumption | exact And.left (by with_reducible assumption) | exact And.left (And.right (by with_reducible assumption)) | exact And.left (And.right (And.right (by with_reducible assumption))) | exact And.left (And.right (And.right (And.right (by with_reducible assumption)))) | exact And.left (And.right (And.right (And.right (And.right (by with_reducible assumption))))) | exact And.left (And.right (And.right (And.right (And.right (And.right (by with_reducible assumption)))))) | exact And.left (And.right (And.right (And.right (And.right (And.right (And.right (by with_reducible assumption))))))) | exact And.left (And.right (And.right (And.right (And.right (And.right (And.right (And.right (by with_reducible assumption)))))))) | exact And.left (And.right (And.right (And.right (And.right (And.right (And.right (And.right (And.right (by with_reducible assumption))))))))) | exact And.left (And.right (And.right (And.right (And.right (And.right (And.right (And.right (And.right (And.right (by with_reducible assumption)))))))))) | exact And.left (And.right (And.right (And.right (And.right (And.right (And.right (And.right (And.right (And.right (And.right (by with_reducible assumption))))))))))) | exact And.left (And.right (And.right (And.right (And.right (And.right (And.right (And.right (And.right (And.right (And.right (And.right (by with_reducible assumption)))))))))))) | exact And.right (by with_reducible assumption) | exact And.right (And.right (by with_reducible assumption)) | exact And.right (And.right (And.right (by with_reducible assumption))) | exact And.right (And.right (And.right (And.right (by with_reducible assumption)))) | exact And.right (And.right (And.right (And.right (And.right (by with_reducible assumption))))) | exact And.right (And.right (And.right (And.right (And.right (And.right (by with_reducible assumption)))))) | exact And.right (And.right (And.right (And.right (And.right (And.right (And.right (by with_reducible assumption))))))) | exact And.right (And.right (And.right (And.right (And.right (And.right (And.right (And.right (by with_reducible assumption)))))))) | exact And.right (And.right (And.right (And.right (And.right (And.right (And.right (And.right (And.right (by with_reducible assumption))))))))) | exact And.right (And.right (And.right (And.right (And.right (And.right (And.right (And.right (And.right (And.right (by with_reducible assumption)))))))))) | exact And.right (And.right (And.right (And.right (And.right (And.right (And.right (And.right (And.right (And.right (And.right (by with_reducible assumption))))))))))) | exact nat_lt1 _)
  k_with "ch" => (first | with_reducible assumption | (refine Nat.lt_trans (by with_reducible assumption) ?_; k_extra "ch"))
  k_with "lt" => (first | k_extra "lt0" | exact nat_ltS (by k_extra "lt0") | exact nat_ltS (nat_ltS (by k_extra "lt0")) | exact nat_ltS (nat_ltS (nat_ltS (by k_extra "lt0"))) | exact nat_ltS (nat_ltS (nat_ltS (nat_ltS (by k_extra "lt0")))) | exact nat_ltS (nat_ltS (nat_ltS (nat_ltS (nat_ltS (by k_extra "lt0"))))) | exact nat_ltS (nat_ltS (nat_ltS (nat_ltS (nat_ltS (nat_ltS (by k_extra "lt0")))))) | exact nat_ltS (nat_ltS (nat_ltS (nat_ltS (nat_ltS (nat_ltS (nat_ltS (by k_extra "lt0"))))))) | exact nat_ltS (nat_ltS (nat_ltS (nat_ltS (nat_ltS (nat_ltS (nat_ltS (nat_ltS (by k_extra "lt0")))))))) | k_extra "ch")
  k_with "omega" => (first
    | with_reducible assumption
    | exact Nat.ne_of_lt (by with_reducible assumption) | exact Nat.ne_of_gt (by with_reducible assumption)
    | exact nat_room2 (by with_reducible assumption) (by rfl) | exact nat_room1 (by with_reducible assumption) (by rfl) | exact nat_room3 (by with_reducible assumption) (by rfl) | exact nat_room0 (by with_reducible assumption)
    | exact nat_meas (by with_reducible assumption) | exact nat_meas (Nat.lt_succ_of_lt (by with_reducible assumption))
    | exact c_low (by with_reducible assumption) (by rfl) | exact c_high (by with_reducible assumption) (by rfl) | exact c_lt (by with_reducible assumption) (by rfl)
    | exact Nat.succ_le_of_lt (by with_reducible assumption) | exact Nat.lt_succ_of_le (by with_reducible assumption)
    | exact And.intro (by k_extra "lt") (by k_extra "lt")
    | exact Int.natCast_nonneg _ | exact Int.ofNat_lt.mpr (by with_reducible assumption) | exact Int.ofNat_le.mpr (by with_reducible assumption) | exact int_lt (by with_reducible assumption) (by decide) | exact int_le (by with_reducible assumption) (by decide) | exact Int.lt_of_lt_of_le (by with_reducible assumption) (by decide) | exact Int.le_trans (Int.le_of_lt (by with_reducible assumption)) (by decide)
    | exact Nat.ne_of_lt (by k_extra "lt") | exact Nat.ne_of_gt (by k_extra "lt") | k_extra "lt"
    | exact Nat.le_trans (by with_reducible assumption) (by decide) | exact nat_eqle (by with_reducible assumption) (by decide) | exact Nat.le_trans (Nat.succ_le_succ (by with_reducible assumption)) (by decide) | exact Nat.le_of_lt (by with_reducible assumption) | exact Nat.le_of_eq (by with_reducible assumption)
    | decide)
  exact True.intro
set_option maxRecDepth 100000 in
set_option maxHeartbeats 8000000 in
theorem pretty_spec (w : World) (p : Program) (loose : List Str) (mean : ExcName → Option Value) (mg mb : Str → Option Value) (n : Nat) (t : Tok) (h16 : n < 65536) :
   Claim w p loose mean mg mb 22 3 [] [.int (n : Int) t] (fun _ => True) (ValRet fun t => .str (prettyS n) t) := by
  dsimp only [Claim, PR]
  k_fill
  intro dp un gd cn cs a ccd cl outer A₀ base h₀ L m s Q E hB hC hF hX hN hT hk hd hu hp hret
  refine wpAny_call ?_
  walk_at "mine enter"
  intro g L1 h1 FG F1 N1 B1 X1 T1 G1
  dsimp only
  k_fold
  k_steps
  refine for_raw ?_
  k_steps
  rename_i nl _ _ _ _ _ _ _ _ _ _ _ _ _ _
  refine iter_range (by k_asm) (by k_asm) (by assumption) (by decide) (n := 32) (by decide) ?_
  intro it h2 F2 N2 l2 _
  refine ⟨PrI g L1 s n it nl, 32, ?_, ?_⟩
  · refine ⟨0, h2, _, _, t, [], 0, Nat.zero_le _, fr_map2 F2 (Str.ofString "flags") (Str.ofString "names") ?_ ?_, N2, .nil, by omega⟩
    · simp only [Nat.pow_zero, Nat.div_one, Nat.mul_one]; rfl
    · rfl
  · refine PrI.all ?_
    intro i h tk u tf vs ne hi F3 N3 hv hnz
    have hlt : @LT.lt Nat _ nl it := l2 _ List.mem_cons_self
    have hne : nl ≠ it := Nat.ne_of_lt hlt
    have hlen : vs.length ≤ 32 := by rw [hv.len_eq]; exact Nat.le_trans (namesTo_length n i) hi
    have hsz : vs.toArray.size ≤ sizeLine := by rw [List.size_toArray, PySem.sizeLine_eq]; omega
    have hz1 : (baseText "0x" 16 (1 * 2 ^ ((i : Nat) : Int).toNat)).length ≤ sizeLine := by
      have := hex_size i (by omega)
      rw [PySem.sizeLine_eq]; omega
    refine next_range rfl F3 N3 (by simpa using hne) ?_ ?_
    · intro t4 h4 tk4 lt4 F4 N4 _
      have hi16 : Builtin.bitAnd ((n / 2 ^ i * 2 ^ i : Nat) : Int) (1 * 2 ^ ((i : Nat) : Int).toNat) ≠ 0 → i < 16 := fun hb => by
        have hb := (bit_iff n i).mp hb
        have hp := Nat.ge_two_pow_of_testBit hb
        refine Nat.lt_of_not_le fun hle => ?_
        have := Nat.pow_le_pow_right (n := 2) (by decide) hle
        omega
      have e1 : ((i : Nat) : Int) + 1 = ((i + 1 : Nat) : Int) := by omega
      have e2 : 32 - ((i : Nat) : Int) - 1 = 32 - ((i + 1 : Nat) : Int) := by omega
      rw [e1, e2] at N4
      dsimp only [ForTurn]
      k_steps
      · have hb' := (bit_iff n i).mp (by assumption)
        have hz0 : Builtin.bitXor ((n / 2 ^ i * 2 ^ i : Nat) : Int) (1 * 2 ^ ((i : Nat) : Int).toNat) ≠ 0 := by assumption
        (with_reducible rename Fr _ _ _ _ => F9)
        (with_reducible rename News _ _ _ _ => N9)
        rw [List.push_toArray] at N9
        rw [next_set hb'] at hz0
        refine ⟨32 - (i + 1), by omega, i + 1, _, _, _, _, _, _, by omega, fr_map2 F9 (Str.ofString "flags") (Str.ofString "names") (by rw [← next_set hb']; rfl) rfl, N9, ?_, .inl fun z => hz0 (by rw [z, Nat.zero_mul]; rfl)⟩
        rw [namesTo_succ, hb', if_pos rfl]
        exact hv.append' (.cons _ _ .nil)
      · have hb' := (bit_iff n i).mp (by assumption)
        have hz0 : Builtin.bitXor ((n / 2 ^ i * 2 ^ i : Nat) : Int) (1 * 2 ^ ((i : Nat) : Int).toNat) = 0 := by assumption
        rw [next_set hb'] at hz0
        have hi16' := hi16 (by assumption)
        have hnm : ∀ t, StrsAre (vs ++ [.str (nameS i) t]) (namesTo n (i + 1)) := fun t => by
          rw [namesTo_succ, hb', if_pos rfl]
          exact hv.append' (.cons _ t .nil)
        have hw := namesTo_weight n (i + 1)
        have hl := namesTo_length n (i + 1)
        have htop : n < 2 ^ (i + 1) := by
          refine Nat.lt_of_not_le fun hle => ?_
          have h1 := Nat.div_pos hle (Nat.two_pow_pos (i + 1))
          have h2 := Nat.mul_pos h1 (Nat.two_pow_pos (i + 1))
          omega
        have hne0 : n ≠ 0 := fun z => by rw [z] at hb'; simp at hb'
        dsimp only [ForFlow, OwitFlow]
        k_steps
        (with_reducible rename News _ _ _ _ => N9)
        rw [List.push_toArray] at N9
        refine join_listC (N9.isList (by news_mem)) (hnm _) (by decide) (by omega) ?_
        intro t9 k9
        refine Done.intro (by assumption) (by assumption) [] (fun _ h => nomatch h) (ValRet.of (t := _) (congrArg (Value.str · _) ?_))
        unfold prettyS
        have e16 : 16 = (i + 1) + (15 - i) := by omega
        rw [if_neg hne0, e16, namesTo_top htop]
      · have hb' : n.testBit i = false := by
          cases hc : n.testBit i with
          | false => rfl
          | true => exact absurd (by assumption) ((bit_iff n i).mpr hc)
        (with_reducible rename Fr _ _ _ _ => F9)
        (with_reducible rename News _ _ _ _ => N9)
        refine ⟨32 - (i + 1), by omega, i + 1, _, _, _, _, _, _, by omega, fr_map2 F9 (Str.ofString "flags") (Str.ofString "names") (by rw [← next_clear hb']; rfl) rfl, N9, ?_, ?_⟩
        · rw [namesTo_succ, hb']; simpa using hv
        · rcases hnz with h | h
          · refine .inl fun z => h ?_
            have e := next_clear hb'
            rw [z, Nat.zero_mul] at e
            rcases Nat.mul_eq_zero.mp e with e | e
            · exact e
            · exact absurd e (Nat.pos_iff_ne_zero.mp (Nat.two_pow_pos i))
          · exact .inr h
    · intro h4 le4 F4 N4 _
      have hi32 : i = 32 := by omega
      subst hi32
      have hn0 : n = 0 := by
        rcases hnz with h | h
        · exact absurd (Nat.div_eq_of_lt (by omega)) h
        · exact h
      subst hn0
      have hz2 : (baseText "0x" 16 ((0 / 2 ^ 32 * 2 ^ 32 : Nat) : Int)).length ≤ sizeLine := by
        have := hex_zero
        rw [PySem.sizeLine_eq]
        exact Nat.le_trans this (by decide)
      dsimp only [ForTurn]
      k_steps
      have hv0 : namesTo 0 32 = [] := by decide +kernel
      rw [hv0] at hv
      cases hv
      (with_reducible rename News _ _ _ _ => N9)
      rw [List.push_toArray] at N9
      refine join_listC (N9.isList (by news_mem)) (.cons _ _ .nil) (by decide) (by decide +kernel) ?_
      intro t9 k9
      exact Done.intro (by assumption) (by assumption) [] (fun _ h => nomatch h) (ValRet.of (t := _) (congrArg (Value.str · _) (by decide +kernel)))
end
section
/-- what Int2AP writes of n: the base-16 digits as A .. P, the highest first -/
noncomputable def apL (n : Nat) : List Nat := if _h : n = 0 then [] else apL (n / 16) ++ [65 + n % 16]
termination_by n
decreasing_by omega
noncomputable abbrev bytesOf (l : List Nat) : Array UInt8 := (l.map UInt8.ofNat).toArray
noncomputable abbrev apTab : Array UInt8 := #[65, 66, 67, 68, 69, 70, 71, 72, 73, 74, 75, 76, 77, 78, 79, 80]
theorem ap_whole : ∀ q : Nat, q < 16 → KBy.whole apTab (some ((q : Nat) : Int)) (some (((q : Nat) : Int) + 1)) = false := by decide +kernel
theorem ap_pick : ∀ q : Nat, q < 16 → KBy.picked apTab (some ((q : Nat) : Int)) (some (((q : Nat) : Int) + 1)) = #[UInt8.ofNat (65 + q)] := by decide +kernel
theorem fmod_nat (k : Nat) : ((k : Nat) : Int).fmod 16 = ((k % 16 : Nat) : Int) := by
  rw [Int.fmod_eq_emod_of_nonneg _ (by decide)]; omega
theorem fdiv_nat (k : Nat) : ((k : Nat) : Int).fdiv 16 = ((k / 16 : Nat) : Int) := by
  rw [Int.fdiv_eq_ediv_of_nonneg _ (by decide)]; omega
theorem apL_zero : apL 0 = [] := by rw [apL]; rfl
theorem apL_pos {n : Nat} (h : n ≠ 0) : apL n = apL (n / 16) ++ [65 + n % 16] := by rw [apL, dif_neg h]
theorem apL_length : ∀ (a n : Nat), n < 16 ^ a → (apL n).length ≤ a
  | 0, n, h => by
    have : n = 0 := by simpa using h
    subst this; rw [apL_zero]; simp
  | a + 1, n, h => by
    by_cases hn : n = 0
    · subst hn; rw [apL_zero]; simp
    · rw [apL_pos hn, List.length_append, List.length_singleton]
      have := apL_length a (n / 16) (by rw [Nat.pow_succ] at h; exact Nat.div_lt_of_lt_mul (by omega))
      omega
set_option inductive.autoPromoteIndices false in
set_option autoImplicit false in
inductive ApI (g : Heap) (L1 : Addr) (s : Shared) (n : Nat)  : Nat → Shared → Prop
  | mk (j : Nat) (l : List Nat) (h : Heap) (tk : Nat) (u : Str → Option Value) (t1 : Tok) (t2 : Tok) (t3 : Tok) (c0 : j ≤ n) (c1 : apL n = apL j ++ l) (c2 : l.length ≤ 4) (c3 : Fr g L1 h (fun z => if z = Str.ofString "num" then some (.int ((j : Nat) : Int) t1) else if z = Str.ofString "AP" then some (.bytes #[65, 66, 67, 68, 69, 70, 71, 72, 73, 74, 75, 76, 77, 78, 79, 80] t2) else if z = Str.ofString "val" then some (.bytes (bytesOf l) t3) else u z)) (c4 : News g L1 h []) : ApI g L1 s n (j) ({ s with heap := h, toks := tk })
set_option autoImplicit false in
theorem ApI.all {g : Heap} {L1 : Addr} {s : Shared} {n : Nat} {P : Nat → Shared → Prop} (h : ∀ (j : Nat) (l : List Nat) (h : Heap) (tk : Nat) (u : Str → Option Value) (t1 : Tok) (t2 : Tok) (t3 : Tok) (c0 : j ≤ n) (c1 : apL n = apL j ++ l) (c2 : l.length ≤ 4) (c3 : Fr g L1 h (fun z => if z = Str.ofString "num" then some (.int ((j : Nat) : Int) t1) else if z = Str.ofString "AP" then some (.bytes #[65, 66, 67, 68, 69, 70, 71, 72, 73, 74, 75, 76, 77, 78, 79, 80] t2) else if z = Str.ofString "val" then some (.bytes (bytesOf l) t3) else u z)) (c4 : News g L1 h []), P (j) ({ s with heap := h, toks := tk })) : ∀ (x0 : Nat) (x1 : Shared), ApI g L1 s n x0 x1 → P x0 x1 :=
  fun _ _ t => ApI.rec (motive := fun x0 x1 _ => P x0 x1) h t
theorem words_ap_spec : True := by
  w_top off
  k_with_none
  k_with "mine ktr_room" => ((try simp only [depth_under_make, depth_under_kw, depth_in1, depth_deeper, depth_caller]); (try dsimp only [ktrTop]); first | decide | omega)
  k_with "mine ktr_units" => ((try simp only [units_in1, units_deeper, Around.mark_units, units_caller]); (try dsimp only [ktrTop]); first | (rw [cLine_is]; decide) | omega)
  k_with "binaryOp Add str str" => (refine PyProof.Rows.add_str (hsz := ?hszq) ?_; (case hszq => assumption); intro _ _)
  k_with "call builtin:hex" => (refine P.hex_of_int ?_ (hsz := ?hszq); (case hszq => assumption))
  k_with "call builtin:list.append" => (k_here; (with_reducible show wpAny _ _ (call (Value.builtin _) [Value.ref _, _]) _ _ _); k_dflt (refine' append_K ?k1 ?k2 ?k3 ?_ ?z; (case k1 => k_asm); (case k2 => k_asm); (case k3 => k_upd); (case z => assumption); k_whole); intro h9w F9w N9w; (try k_sweep))
  k_with "call builtin:dict.get" => (k_here; k_dflt (refine' flag_get ?k1 ?k2 ?k3 ?k4 ?_; (case k1 => k_asm); (case k2 => exact Fr.keep (by with_reducible assumption)); (case k3 => assumption); (case k4 => assumption)); intro t9w tk9w)
  k_with "exec For Name Call cons nil" => (refine for_raw ?_)
  k_with "exec For Name Call cons cons" => (refine for_raw ?_)
  k_with "exec For Name Name cons nil" => (refine for_raw ?_)
  k_with "exec For Name Subscript cons nil" => (refine for_raw ?_)
  k_with "exec While Name cons nil" => (refine Stop.out ?_)
  k_with "subscriptTail" => (k_here; (with_reducible show wpAny _ _ (subscriptTail _ (Expr.Slice _ _ none _) (Value.bytes _ _) (Value.ref _)) _ _ _); (with_reducible rename Fr _ _ _ _ => F9w); (with_reducible rename News _ _ _ _ => N9w); (refine KBy.slice_N (s := ⟨_, _, _, _, _⟩) F9w N9w (by constructor) (by constructor) (by assumption) (by assumption) ?_); intro _ _ _ _ _)
  k_with "binaryOp Add bytes bytes" => (k_here; (with_reducible show wpAny _ _ (binaryOp Operator.Add (Value.bytes _ _) (Value.bytes _ _)) _ _ _); (refine KBy.add_bytes (by assumption) ?_); intro _ _)
  k_with "mine enter" => (k_dflt (refine' enter_plain ?k1 ?k2 ?k3 ?k4 ?k5 ?kA ?kF ?kK ?k6 ?k7 ?k8 ?k9 ?kB ?hr ?_ ?c2 ?c3 ?c4 ?c5; (case kA => exact rfl); (case kF => exact rfl); (case kK => assumption); (case k1 => k_asm); (case k2 => k_asm); (case k3 => k_asm); (case k4 => k_asm); (case k5 => k_asm); (case k6 => k_is); (case k7 => k_is); (case k8 => ktr_room); (case k9 => exact BindsTo.of_eq rfl); (case c5 => decide); (case kB => exact locs rfl); (case hr => assumption); (case c2 => exact rfl); (case c3 => exact rfl); (case c4 => exact rfl); k_whole))
  k_with "lt0" => (first | with_reducible assumption | exact And.left (by with_reducible assumption) | exact And.left (And.right (by with_reducible assumption)) | exact And.left (And.right (And.right (by with_reducible assumption))) | exact And.left (And.right (And.right (And.right (by with_reducible assumption)))) | exact And.left (And.right (And.right (And.right (And.right (by with_reducible assumption))))) | exact And.left (And.right (And.right (And.right (And.right (And.right (by with_reducible assumption)))))) | exact And.left (And.right (And.right (And.right (And.right (And.right (And.right (by with_reducible assumption))))))) | exact And.left (And.right (And.right (And.right (And.right (And.right (And.right (And.right (by with_reducible assumption)))))))) | exact And.left (And.right (And.right (And.right (And.right (And.right (And.right (And.right (And.right (by with_reducible assumption))))))))) | exact And.left (And.right (And.right (And.right (And.right (And.right (And.right (And.right (And.right (And.right (by with_reducible assumption)))))))))) | exact And.left (And.right (And.right (And.right (And.right (And.right (And.right (And.right (And.right (And.right (And.right (by with_reducible assumption))))))))))) | exact And.left (And.right (And.right (And.right (And.right (And.right (And.right (And.right (And.right (And.right (And.right (And.right (by with_reducible assumption)))))))))))) | exact And.right (by with_reducible assumption) | exact And.right (And.right (by with_reducible assumption)) | exact And.right (And.right (And.right (by with_reducible assumption))) | exact And.right (And.right (And.right (And.right (by with_reducible assumption)))) | exact And.right (And.right (And.right (And.right (And.right (by with_reducible assumption))))) | exact And.right (And.right (And.right (And.right (And.right (And.right (by with_reducible assumption)))))) | exact And.right (And.right (And.right (And.right (And.right (And.right (And.right (by with_reducible assumption))))))) | exact And.right (And.right (And.right (And.right (And.right (And.right (And.right (And.right (by with_reducible assumption)))))))) | exact And.right (And.right (And.right (And.right (And.right (And.right (And.right (And.right (And.right (by with_reducible assumption))))))))) | exact And.right (And.right (And.right (And.right (And.right (And.right (And.right (And.right (And.right (And.right (by with_reducible assumption)))))))))) | exact And.right (And.right (And.right (And.right (And.right (And.right (And.right (And.right (And.right (And.right (And.right (by with_reducible assumption))))))))))) | exact nat_lt1 _)
  k_with "ch" => (first | with_reducible assumption | (refine Nat.lt_trans (by with_reducible assumption) ?_; k_extra "ch"))
  k_with "lt" => (first | k_extra "lt0" | exact nat_ltS (by k_extra "lt0") | exact nat_ltS (nat_ltS (by k_extra "lt0")) | exact nat_ltS (nat_ltS (nat_ltS (by k_extra "lt0"))) | exact nat_ltS (nat_ltS (nat_ltS (nat_ltS (by k_extra "lt0")))) | exact nat_ltS (nat_ltS (nat_ltS (nat_ltS (nat_ltS (by k_extra "lt0"))))) | exact nat_ltS (nat_ltS (nat_ltS (nat_ltS (nat_ltS (nat_ltS (by k_extra "lt0")))))) | exact nat_ltS (nat_ltS (nat_ltS (nat_ltS (nat_ltS (nat_ltS (nat_ltS (by k_extra "lt0"))))))) | exact nat_ltS (nat_ltS (nat_ltS (nat_ltS (nat_ltS (nat_ltS (nat_ltS (nat_ltS (by k_extra "lt0")))))))) | k_extra "ch")
  k_with "omega" => (first
    | with_reducible assumption
    | exact Nat.ne_of_lt (by with_reducible assumption) | exact Nat.ne_of_gt (by with_reducible assumption)
    | exact nat_room2 (by with_reducible assumption) (by rfl) | exact nat_room1 (by with_reducible assumption) (by rfl) | exact nat_room3 (by with_reducible assumption) (by rfl) | exact nat_room0 (by with_reducible assumption)
    | exact nat_meas (by with_reducible assumption) | exact nat_meas (Nat.lt_succ_of_lt (by with_reducible assumption))
    | exact c_low (by with_reducible assumption) (by rfl) | exact c_high (by with_reducible assumption) (by rfl) | exact c_lt (by with_reducible assumption) (by rfl)
    | exact Nat.succ_le_of_lt (by with_reducible assumption) | exact Nat.lt_succ_of_le (by with_reducible assumption)
    | exact And.intro (by k_extra "lt") (by k_extra "lt")
    | exact Int.natCast_nonneg _ | exact Int.ofNat_lt.mpr (by with_reducible assumption) | exact Int.ofNat_le.mpr (by with_reducible assumption) | exact int_lt (by with_reducible assumption) (by decide) | exact int_le (by with_reducible assumption) (by decide) | exact Int.lt_of_lt_of_le (by with_reducible assumption) (by decide) | exact Int.le_trans (Int.le_of_lt (by with_reducible assumption)) (by decide)
    | exact Nat.ne_of_lt (by k_extra "lt") | exact Nat.ne_of_gt (by k_extra "lt") | k_extra "lt"
    | exact Nat.le_trans (by with_reducible assumption) (by decide) | exact nat_eqle (by with_reducible assumption) (by decide) | exact Nat.le_trans (Nat.succ_le_succ (by with_reducible assumption)) (by decide) | exact Nat.le_of_lt (by with_reducible assumption) | exact Nat.le_of_eq (by with_reducible assumption)
    | decide)
  exact True.intro
set_option maxRecDepth 100000 in
set_option maxHeartbeats 8000000 in
theorem ap_spec (w : World) (p : Program) (loose : List Str) (mean : ExcName → Option Value) (mg mb : Str → Option Value) (n : Nat) (t : Tok) (h16 : n < 65536) :
   Claim w p loose mean mg mb 29 3 [] [.int (n : Int) t] (fun _ => True) (ValRet fun t => .bytes (bytesOf (apL n)) t) := by
  dsimp only [Claim, PR]
  k_fill
  intro dp un gd cn cs a ccd cl outer A₀ base h₀ L m s Q E hB hC hF hX hN hT hk hd hu hp hret
  refine wpAny_call ?_
  walk_at "mine enter"
  intro g L1 h1 FG F1 N1 B1 X1 T1 G1
  dsimp only
  k_fold
  k_steps
  have e0 : (if ((n : Nat) : Int) < 0 then -((n : Nat) : Int) else ((n : Nat) : Int)) = ((n : Nat) : Int) := if_neg (by omega)
  (with_reducible rename Fr _ _ _ _ => F2)
  (with_reducible rename News _ _ _ _ => N2)
  rw [e0] at F2
  refine while_raw (ApI g L1 s n) n ?_ ?_
  · refine ⟨n, [], _, _, _, _, _, _, Nat.le_refl _, by simp, by simp, fr_map3 F2 (Str.ofString "num") (Str.ofString "AP") (Str.ofString "val") rfl rfl rfl, N2⟩
  · refine ApI.all ?_
    intro k l h tk u t1 t2 t3 hj hl hlen F3 N3
    k_steps
    refine WhileTurn.of (fun hb => ?_) (fun hb => ?_)
    · have hb' : k ≠ 0 := fun z => by subst z; simp at hb
      have hm : k % 16 < 16 := Nat.mod_lt _ (by decide)
      have hA1 : KBy.whole #[65, 66, 67, 68, 69, 70, 71, 72, 73, 74, 75, 76, 77, 78, 79, 80] (some (((k : Nat) : Int).fmod 16)) (some (((k : Nat) : Int).fmod 16 + 1)) = false := by
        rw [fmod_nat]; exact ap_whole _ hm
      have hA3 : KBy.picked #[65, 66, 67, 68, 69, 70, 71, 72, 73, 74, 75, 76, 77, 78, 79, 80] (some (((k : Nat) : Int).fmod 16)) (some (((k : Nat) : Int).fmod 16 + 1)) = #[UInt8.ofNat (65 + k % 16)] := by
        rw [fmod_nat]; exact ap_pick _ hm
      have hA2 : (KBy.picked #[65, 66, 67, 68, 69, 70, 71, 72, 73, 74, 75, 76, 77, 78, 79, 80] (some (((k : Nat) : Int).fmod 16)) (some (((k : Nat) : Int).fmod 16 + 1))).size ≤ 16777216 := by
        rw [hA3]; simp
      have hA4 : (KBy.picked #[65, 66, 67, 68, 69, 70, 71, 72, 73, 74, 75, 76, 77, 78, 79, 80] (some (((k : Nat) : Int).fmod 16)) (some (((k : Nat) : Int).fmod 16 + 1))).size + (bytesOf l).size ≤ 16777216 := by
        rw [hA3]; simp; omega
      k_steps
      (with_reducible rename Fr _ _ _ _ => F9)
      (with_reducible rename News _ _ _ _ => N9)
      have hl' : apL n = apL (k / 16) ++ ((65 + k % 16) :: l) := by rw [hl, apL_pos hb', List.append_assoc]; rfl
      have hlen' : ((65 + k % 16) :: l).length ≤ 4 := by
        have h4 := apL_length 4 n h16
        rw [hl', List.length_append] at h4
        omega
      have hval : KBy.picked #[65, 66, 67, 68, 69, 70, 71, 72, 73, 74, 75, 76, 77, 78, 79, 80] (some (((k : Nat) : Int).fmod 16)) (some (((k : Nat) : Int).fmod 16 + 1)) ++ bytesOf l = bytesOf ((65 + k % 16) :: l) := by
        rw [hA3]; simp [bytesOf]
      exact ⟨k / 16, by omega, k / 16, (65 + k % 16) :: l, _, _, _, _, _, _, by omega, hl', hlen', fr_map3 F9 (Str.ofString "num") (Str.ofString "AP") (Str.ofString "val") (by rw [← fdiv_nat]; rfl) rfl (by rw [← hval]; rfl), fun _ h => nomatch h⟩
    · have hb' : k = 0 := by simpa using hb
      subst hb'
      k_steps
      rw [apL_zero, List.nil_append] at hl
      exact Done.intro F3 N3 [] (fun _ h => nomatch h) (ValRet.of (t := _) (by rw [hl]))
end
section
noncomputable def numStep (a : Int) (c : Nat) : Int := 16 * a + ((c : Nat) : Int) - 65
noncomputable def numL (l : List Nat) : Int := l.foldl numStep 0
set_option autoImplicit false in
inductive NumI (g : Heap) (L1 : Addr) (s : Shared) (l : List Nat) (t : Tok) (it : Addr)  : Nat → Shared → Prop
  | mk (i : Nat) (oi : Obj) (h : Heap) (tk : Nat) (u : Str → Option Value) (tn : Tok) (c0 : i ≤ l.length) (c1 : IsStrIt oi (strOf l) t i) (c2 : Fr g L1 h (fun z => if z = Str.ofString "number" then some (.int (numL (l.take i)) tn) else u z)) (c3 : News g L1 h [(it, oi)]) : NumI g L1 s l t it (l.length - i) ({ s with heap := h, toks := tk })
set_option autoImplicit false in
theorem NumI.all {g : Heap} {L1 : Addr} {s : Shared} {l : List Nat} {t : Tok} {it : Addr} {P : Nat → Shared → Prop} (h : ∀ (i : Nat) (oi : Obj) (h : Heap) (tk : Nat) (u : Str → Option Value) (tn : Tok) (c0 : i ≤ l.length) (c1 : IsStrIt oi (strOf l) t i) (c2 : Fr g L1 h (fun z => if z = Str.ofString "number" then some (.int (numL (l.take i)) tn) else u z)) (c3 : News g L1 h [(it, oi)]), P (l.length - i) ({ s with heap := h, toks := tk })) : ∀ (x0 : Nat) (x1 : Shared), NumI g L1 s l t it x0 x1 → P x0 x1 :=
  fun _ _ t => NumI.rec (motive := fun x0 x1 _ => P x0 x1) h t
theorem words_num_spec : True := by
  w_top off
  k_with_none
  k_with "mine ktr_room" => ((try simp only [depth_under_make, depth_under_kw, depth_in1, depth_deeper, depth_caller]); (try dsimp only [ktrTop]); first | decide | omega)
  k_with "mine ktr_units" => ((try simp only [units_in1, units_deeper, Around.mark_units, units_caller]); (try dsimp only [ktrTop]); first | (rw [cLine_is]; decide) | omega)
  k_with "binaryOp Add str str" => (refine PyProof.Rows.add_str (hsz := ?hszq) ?_; (case hszq => assumption); intro _ _)
  k_with "call builtin:hex" => (refine P.hex_of_int ?_ (hsz := ?hszq); (case hszq => assumption))
  k_with "call builtin:list.append" => (k_here; (with_reducible show wpAny _ _ (call (Value.builtin _) [Value.ref _, _]) _ _ _); k_dflt (refine' append_K ?k1 ?k2 ?k3 ?_ ?z; (case k1 => k_asm); (case k2 => k_asm); (case k3 => k_upd); (case z => assumption); k_whole); intro h9w F9w N9w; (try k_sweep))
  k_with "call builtin:dict.get" => (k_here; k_dflt (refine' flag_get ?k1 ?k2 ?k3 ?k4 ?_; (case k1 => k_asm); (case k2 => exact Fr.keep (by with_reducible assumption)); (case k3 => assumption); (case k4 => assumption)); intro t9w tk9w)
  k_with "exec For Name Call cons nil" => (refine for_raw ?_)
  k_with "exec For Name Call cons cons" => (refine for_raw ?_)
  k_with "exec For Name Name cons nil" => (refine for_raw ?_)
  k_with "exec For Name Subscript cons nil" => (refine for_raw ?_)
  k_with "exec While Name cons nil" => (refine Stop.out ?_)
  k_with "subscriptTail" => (k_here; (with_reducible show wpAny _ _ (subscriptTail _ (Expr.Slice _ _ none _) (Value.bytes _ _) (Value.ref _)) _ _ _); (with_reducible rename Fr _ _ _ _ => F9w); (with_reducible rename News _ _ _ _ => N9w); (refine KBy.slice_N (s := ⟨_, _, _, _, _⟩) F9w N9w (by constructor) (by constructor) (by assumption) (by assumption) ?_); intro _ _ _ _ _)
  k_with "binaryOp Add bytes bytes" => (k_here; (with_reducible show wpAny _ _ (binaryOp Operator.Add (Value.bytes _ _) (Value.bytes _ _)) _ _ _); (refine KBy.add_bytes (by assumption) ?_); intro _ _)
  k_with "mine enter" => (k_dflt (refine' enter_plain ?k1 ?k2 ?k3 ?k4 ?k5 ?kA ?kF ?kK ?k6 ?k7 ?k8 ?k9 ?kB ?hr ?_ ?c2 ?c3 ?c4 ?c5; (case kA => exact rfl); (case kF => exact rfl); (case kK => assumption); (case k1 => k_asm); (case k2 => k_asm); (case k3 => k_asm); (case k4 => k_asm); (case k5 => k_asm); (case k6 => k_is); (case k7 => k_is); (case k8 => ktr_room); (case k9 => exact BindsTo.of_eq rfl); (case c5 => decide); (case kB => exact locs rfl); (case hr => assumption); (case c2 => exact rfl); (case c3 => exact rfl); (case c4 => exact rfl); k_whole))
  k_with "lt0" => (first | with_reducible assumption | exact And.left (by with_reducible assumption) | exact And.left (And.right (by with_reducible assumption)) | exact And.left (And.right (And.right (by with_reducible assumption))) | exact And.left (And.right (And.right (And.right (by with_reducible assumption)))) | exact And.left (And.right (And.right (And.right (And.right (by with_reducible assumption))))) | exact And.left (And.right (And.right (And.right (And.right (And.right (by with_reducible assumption)))))) | exact And.left (And.right (And.right (And.right (And.right (And.right (And.right (by with_reducible assumption))))))) | exact And.left (And.right (And.right (And.right (And.right (And.right (And.right (And.right (by with_reducible assumption)))))))) | exact And.left (And.right (And.right (And.right (And.right (And.right (And.right (And.right (And.right (by with_reducible assumption))))))))) | exact And.left (And.right (And.right (And.right (And.right (And.right (And.right (And.right (And.right (And.right (by with_reducible assumption)))))))))) | exact And.left (And.right (And.right (And.right (And.right (And.right (And.right (And.right (And.right (And.right (And.right (by with_reducible assumption))))))))))) | exact And.left (And.right (And.right (And.right (And.right (And.right (And.right (And.right (And.right (And.right (And.right (And.right (by with_reducible assumption)))))))))))) | exact And.right (by with_reducible assumption) | exact And.right (And.right (by with_reducible assumption)) | exact And.right (And.right (And.right (by with_reducible assumption))) | exact And.right (And.right (And.right (And.right (by with_reducible assumption)))) | exact And.right (And.right (And.right (And.right (And.right (by with_reducible assumption))))) | exact And.right (And.right (And.right (And.right (And.right (And.right (by with_reducible assumption)))))) | exact And.right (And.right (And.right (And.right (And.right (And.right (And.right (by with_reducible assumption))))))) | exact And.right (And.right (And.right (And.right (And.right (And.right (And.right (And.right (by with_reducible assumption)))))))) | exact And.right (And.right (And.right (And.right (And.right (And.right (And.right (And.right (And.right (by with_reducible assumption))))))))) | exact And.right (And.right (And.right (And.right (And.right (And.right (And.right (And.right (And.right (And.right (by with_reducible assumption)))))))))) | exact And.right (And.right (And.right (And.right (And.right (And.right (And.right (And.right (And.right (And.right (And.right (by with_reducible assumption))))))))))) | exact nat_lt1 _)
  k_with "ch" => (first | with_reducible assumption | (refine Nat.lt_trans (by with_reducible assumption) ?_; k_extra "ch"))
  k_with "lt" => (first | k_extra "lt0" | exact nat_ltS (by k_extra "lt0") | exact nat_ltS (nat_ltS (by k_extra "lt0")) | exact nat_ltS (nat_ltS (nat_ltS (by k_extra "lt0"))) | exact nat_ltS (nat_ltS (nat_ltS (nat_ltS (by k_extra "lt0")))) | exact nat_ltS (nat_ltS (nat_ltS (nat_ltS (nat_ltS (by k_extra "lt0"))))) | exact nat_ltS (nat_ltS (nat_ltS (nat_ltS (nat_ltS (nat_ltS (by k_extra "lt0")))))) | exact nat_ltS (nat_ltS (nat_ltS (nat_ltS (nat_ltS (nat_ltS (nat_ltS (by k_extra "lt0"))))))) | exact nat_ltS (nat_ltS (nat_ltS (nat_ltS (nat_ltS (nat_ltS (nat_ltS (nat_ltS (by k_extra "lt0")))))))) | k_extra "ch")
  k_with "omega" => (first
    | with_reducible assumption
    | exact Nat.ne_of_lt (by with_reducible assumption) | exact Nat.ne_of_gt (by with_reducible assumption)
    | exact nat_room2 (by with_reducible assumption) (by rfl) | exact nat_room1 (by with_reducible assumption) (by rfl) | exact nat_room3 (by with_reducible assumption) (by rfl) | exact nat_room0 (by with_reducible assumption)
    | exact nat_meas (by with_reducible assumption) | exact nat_meas (Nat.lt_succ_of_lt (by with_reducible assumption))
    | exact c_low (by with_reducible assumption) (by rfl) | exact c_high (by with_reducible assumption) (by rfl) | exact c_lt (by with_reducible assumption) (by rfl)
    | exact Nat.succ_le_of_lt (by with_reducible assumption) | exact Nat.lt_succ_of_le (by with_reducible assumption)
    | exact And.intro (by k_extra "lt") (by k_extra "lt")
    | exact Int.natCast_nonneg _ | exact Int.ofNat_lt.mpr (by with_reducible assumption) | exact Int.ofNat_le.mpr (by with_reducible assumption) | exact int_lt (by with_reducible assumption) (by decide) | exact int_le (by with_reducible assumption) (by decide) | exact Int.lt_of_lt_of_le (by with_reducible assumption) (by decide) | exact Int.le_trans (Int.le_of_lt (by with_reducible assumption)) (by decide)
    | exact Nat.ne_of_lt (by k_extra "lt") | exact Nat.ne_of_gt (by k_extra "lt") | k_extra "lt"
    | exact Nat.le_trans (by with_reducible assumption) (by decide) | exact nat_eqle (by with_reducible assumption) (by decide) | exact Nat.le_trans (Nat.succ_le_succ (by with_reducible assumption)) (by decide) | exact Nat.le_of_lt (by with_reducible assumption) | exact Nat.le_of_eq (by with_reducible assumption)
    | decide)
  exact True.intro
set_option maxRecDepth 100000 in
set_option maxHeartbeats 8000000 in
theorem num_spec (w : World) (p : Program) (loose : List Str) (mean : ExcName → Option Value) (mg mb : Str → Option Value) (l : List Nat) (t : Tok) (hl : ∀ c ∈ l, 65 ≤ c ∧ c < 81) (hlen : l.length ≤ 4) :
   Claim w p loose mean mg mb 97 3 [] [.str (strOf l) t] (fun _ => True) (ValRet fun t => .int (numL l) t) := by
  dsimp only [Claim, PR]
  k_fill
  intro dp un gd cn cs a ccd cl outer A₀ base h₀ L m s Q E hB hC hF hX hN hT hk hd hu hp hret
  refine wpAny_call ?_
  walk_at "mine enter"
  intro g L1 h1 FG F1 N1 B1 X1 T1 G1
  dsimp only
  k_fold
  k_steps
  refine iter_str (by k_asm) (by k_asm) (by simp [strOf]; intro c hc; have := hl c hc; omega) ?_
  intro it oi h2 hoi F2 N2 l2 _
  refine ⟨NumI g L1 s l t it, l.length, ?_, ?_⟩
  · exact ⟨0, oi, h2, _, _, _, Nat.zero_le _, hoi, fr_map1 F2 (Str.ofString "number") rfl, N2⟩
  · refine NumI.all ?_
    intro i oi h tk u tn hi hoi F3 N3
    refine next_str rfl hoi F3 N3 (fun _ h => nomatch h) ?_ ?_
    · intro c oi4 t4 h4 tk4 hc hoi4 F4 N4 _
      have hc' : l[i]? = some c := by simpa [strOf] using hc
      have hcm := hl c (List.mem_of_getElem? hc')
      have hil : i < l.length := (List.getElem?_eq_some_iff.mp hc').1
      dsimp only [ForTurn]
      k_steps
      (with_reducible rename Fr _ _ _ _ => F9)
      (with_reducible rename News _ _ _ _ => N9)
      have hs : numL (l.take (i + 1)) = 16 * numL (l.take i) + ((c : Nat) : Int) - 65 := by
        unfold numL
        rw [List.take_add_one, hc', List.foldl_append]; rfl
      exact ⟨l.length - (i + 1), by omega, i + 1, oi4, _, _, _, _, by omega, hoi4, fr_map1 F9 (Str.ofString "number") (by rw [hs]; rfl), N9⟩
    · intro h4 hc F4 N4 _
      have hc' : l.length ≤ i := by simpa [strOf] using hc
      dsimp only [ForTurn]
      k_steps
      exact Done.intro F4 N4 [] (fun _ h => nomatch h) (ValRet.of (t := tn) (by rw [List.take_of_length_le hc']))
end
section
noncomputable def blankOf (y : Nat) : Nat := ([32, 9, 13, 10] : List Nat).getD (y / 3) 32
/-- the signs that _law_written writes for a word -/
noncomputable def writtenL (l : List Nat) (y : Nat) : List Nat :=
  if l = [] ∨ y % 3 = 2 then 34 :: l ++ [34] else if y % 3 = 1 then (l.flatMap fun c => [92, c]) ++ [blankOf y] else l ++ [blankOf y]
theorem item_blank : ∀ y : Nat, y < 12 → Txt.item (Str.ofString " \t\r\n") (((y : Nat) : Int).fdiv 3) = strOf [blankOf y] := by decide +kernel
theorem fmod3_iff (y r : Nat) : ((y : Nat) : Int).fmod 3 = ((r : Nat) : Int) ↔ y % 3 = r := by
  rw [Int.fmod_eq_emod_of_nonneg _ (by decide)]; omega
theorem esc_map (l : List Nat) : (l.map fun c => Str.ofString "\\" ++ ⟨#[c]⟩) = (l.map fun c => [92, c]).map strOf := by
  rw [List.map_map]
  refine List.map_congr_left fun c _ => ?_
  rw [lit_back, strOf_one, strOf_append]; rfl
theorem esc_weight : ∀ l : List Nat, ((l.map fun c => Str.ofString "\\" ++ ⟨#[c]⟩).map (·.length)).sum = 2 * l.length
  | [] => rfl
  | c :: l => by
    have ih := esc_weight l
    simp only [List.map_cons, List.sum_cons, List.length_cons] at ih ⊢
    rw [ih, Str.length_append]
    show 1 + 1 + _ = _
    omega
theorem esc_len : ∀ l : List Nat, (l.flatMap fun c => [92, c]).length = 2 * l.length
  | [] => rfl
  | c :: l => by
    have ih := esc_len l
    rw [List.flatMap_cons, List.length_append, ih]
    simp only [List.length_cons, List.length_nil]
    omega
section
theorem words_written_spec : True := by
  w_top off
  k_with_none
  k_with "mine ktr_room" => ((try simp only [depth_under_make, depth_under_kw, depth_in1, depth_deeper, depth_caller]); (try dsimp only [ktrTop]); first | decide | omega)
  k_with "mine ktr_units" => ((try simp only [units_in1, units_deeper, Around.mark_units, units_caller]); (try dsimp only [ktrTop]); first | (rw [cLine_is]; decide) | omega)
  k_with "binaryOp Add str str" => (refine PyProof.Rows.add_str (hsz := ?hszq) ?_; (case hszq => assumption); intro _ _)
  k_with "call builtin:hex" => (refine P.hex_of_int ?_ (hsz := ?hszq); (case hszq => assumption))
  k_with "call builtin:list.append" => (k_here; (with_reducible show wpAny _ _ (call (Value.builtin _) [Value.ref _, _]) _ _ _); k_dflt (refine' append_K ?k1 ?k2 ?k3 ?_ ?z; (case k1 => k_asm); (case k2 => k_asm); (case k3 => k_upd); (case z => assumption); k_whole); intro h9w F9w N9w; (try k_sweep))
  k_with "call builtin:dict.get" => (k_here; k_dflt (refine' flag_get ?k1 ?k2 ?k3 ?k4 ?_; (case k1 => k_asm); (case k2 => exact Fr.keep (by with_reducible assumption)); (case k3 => assumption); (case k4 => assumption)); intro t9w tk9w)
  k_with "exec For Name Call cons nil" => (refine for_raw ?_)
  k_with "exec For Name Call cons cons" => (refine for_raw ?_)
  k_with "exec For Name Name cons nil" => (refine for_raw ?_)
  k_with "exec For Name Subscript cons nil" => (refine for_raw ?_)
  k_with "exec While Name cons nil" => (refine Stop.out ?_)
  k_with "subscriptTail" => (k_here; (with_reducible show wpAny _ _ (subscriptTail _ (Expr.Slice _ _ none _) (Value.bytes _ _) (Value.ref _)) _ _ _); (with_reducible rename Fr _ _ _ _ => F9w); (with_reducible rename News _ _ _ _ => N9w); (refine KBy.slice_N (s := ⟨_, _, _, _, _⟩) F9w N9w (by constructor) (by constructor) (by assumption) (by assumption) ?_); intro _ _ _ _ _)
  k_with "binaryOp Add bytes bytes" => (k_here; (with_reducible show wpAny _ _ (binaryOp Operator.Add (Value.bytes _ _) (Value.bytes _ _)) _ _ _); (refine KBy.add_bytes (by assumption) ?_); intro _ _)
  k_with "mine enter" => (k_dflt (refine' enter_plain ?k1 ?k2 ?k3 ?k4 ?k5 ?kA ?kF ?kK ?k6 ?k7 ?k8 ?k9 ?kB ?hr ?_ ?c2 ?c3 ?c4 ?c5; (case kA => exact rfl); (case kF => exact rfl); (case kK => assumption); (case k1 => k_asm); (case k2 => k_asm); (case k3 => k_asm); (case k4 => k_asm); (case k5 => k_asm); (case k6 => k_is); (case k7 => k_is); (case k8 => ktr_room); (case k9 => exact BindsTo.of_eq rfl); (case c5 => decide); (case kB => exact locs rfl); (case hr => assumption); (case c2 => exact rfl); (case c3 => exact rfl); (case c4 => exact rfl); k_whole))
  k_with "eval ListComp" => (refine Stop.out ?_)
  k_with "lt0" => (first | with_reducible assumption | exact And.left (by with_reducible assumption) | exact And.left (And.right (by with_reducible assumption)) | exact And.left (And.right (And.right (by with_reducible assumption))) | exact And.left (And.right (And.right (And.right (by with_reducible assumption)))) | exact And.left (And.right (And.right (And.right (And.right (by with_reducible assumption))))) | exact And.left (And.right (And.right (And.right (And.right (And.right (by with_reducible assumption)))))) | exact And.left (And.right (And.right (And.right (And.right (And.right (And.right (by with_reducible assumption))))))) | exact And.left (And.right (And.right (And.right (And.right (And.right (And.right (And.right (by with_reducible assumption)))))))) | exact And.left (And.right (And.right (And.right (And.right (And.right (And.right (And.right (And.right (by with_reducible assumption))))))))) | exact And.left (And.right (And.right (And.right (And.right (And.right (And.right (And.right (And.right (And.right (by with_reducible assumption)))))))))) | exact And.left (And.right (And.right (And.right (And.right (And.right (And.right (And.right (And.right (And.right (And.right (by with_reducible assumption))))))))))) | exact And.left (And.right (And.right (And.right (And.right (And.right (And.right (And.right (And.right (And.right (And.right (And.right (by with_reducible assumption)))))))))))) | exact And.right (by with_reducible assumption) | exact And.right (And.right (by with_reducible assumption)) | exact And.right (And.right (And.right (by with_reducible assumption))) | exact And.right (And.right (And.right (And.right (by with_reducible assumption)))) | exact And.right (And.right (And.right (And.right (And.right (by with_reducible assumption))))) | exact And.right (And.right (And.right (And.right (And.right (And.right (by with_reducible assumption)))))) | exact And.right (And.right (And.right (And.right (And.right (And.right (And.right (by with_reducible assumption))))))) | exact And.right (And.right (And.right (And.right (And.right (And.right (And.right (And.right (by with_reducible assumption)))))))) | exact And.right (And.right (And.right (And.right (And.right (And.right (And.right (And.right (And.right (by with_reducible assumption))))))))) | exact And.right (And.right (And.right (And.right (And.right (And.right (And.right (And.right (And.right (And.right (by with_reducible assumption)))))))))) | exact And.right (And.right (And.right (And.right (And.right (And.right (And.right (And.right (And.right (And.right (And.right (by with_reducible assumption))))))))))) | exact nat_lt1 _)
  k_with "ch" => (first | with_reducible assumption | (refine Nat.lt_trans (by with_reducible assumption) ?_; k_extra "ch"))
  k_with "lt" => (first | k_extra "lt0" | exact nat_ltS (by k_extra "lt0") | exact nat_ltS (nat_ltS (by k_extra "lt0")) | exact nat_ltS (nat_ltS (nat_ltS (by k_extra "lt0"))) | exact nat_ltS (nat_ltS (nat_ltS (nat_ltS (by k_extra "lt0")))) | exact nat_ltS (nat_ltS (nat_ltS (nat_ltS (nat_ltS (by k_extra "lt0"))))) | exact nat_ltS (nat_ltS (nat_ltS (nat_ltS (nat_ltS (nat_ltS (by k_extra "lt0")))))) | exact nat_ltS (nat_ltS (nat_ltS (nat_ltS (nat_ltS (nat_ltS (nat_ltS (by k_extra "lt0"))))))) | exact nat_ltS (nat_ltS (nat_ltS (nat_ltS (nat_ltS (nat_ltS (nat_ltS (nat_ltS (by k_extra "lt0")))))))) | k_extra "ch")
  k_with "omega" => (first
    | with_reducible assumption
    | exact Nat.ne_of_lt (by with_reducible assumption) | exact Nat.ne_of_gt (by with_reducible assumption)
    | exact nat_room2 (by with_reducible assumption) (by rfl) | exact nat_room1 (by with_reducible assumption) (by rfl) | exact nat_room3 (by with_reducible assumption) (by rfl) | exact nat_room0 (by with_reducible assumption)
    | exact nat_meas (by with_reducible assumption) | exact nat_meas (Nat.lt_succ_of_lt (by with_reducible assumption))
    | exact c_low (by with_reducible assumption) (by rfl) | exact c_high (by with_reducible assumption) (by rfl) | exact c_lt (by with_reducible assumption) (by rfl)
    | exact Nat.succ_le_of_lt (by with_reducible assumption) | exact Nat.lt_succ_of_le (by with_reducible assumption)
    | exact And.intro (by k_extra "lt") (by k_extra "lt")
    | exact Int.natCast_nonneg _ | exact Int.ofNat_lt.mpr (by with_reducible assumption) | exact Int.ofNat_le.mpr (by with_reducible assumption) | exact int_lt (by with_reducible assumption) (by decide) | exact int_le (by with_reducible assumption) (by decide) | exact Int.lt_of_lt_of_le (by with_reducible assumption) (by decide) | exact Int.le_trans (Int.le_of_lt (by with_reducible assumption)) (by decide)
    | exact Nat.ne_of_lt (by k_extra "lt") | exact Nat.ne_of_gt (by k_extra "lt") | k_extra "lt"
    | exact Nat.le_trans (by with_reducible assumption) (by decide) | exact nat_eqle (by with_reducible assumption) (by decide) | exact Nat.le_trans (Nat.succ_le_succ (by with_reducible assumption)) (by decide) | exact Nat.le_of_lt (by with_reducible assumption) | exact Nat.le_of_eq (by with_reducible assumption)
    | decide)
  exact True.intro
set_option maxRecDepth 100000 in
set_option maxHeartbeats 8000000 in
theorem written_spec (w : World) (p : Program) (loose : List Str) (mean : ExcName → Option Value) (mg mb : Str → Option Value) (l : List Nat) (t : Tok) (y : Nat) (ty : Tok) (hl : ∀ c ∈ l, 65 ≤ c ∧ c < 81) (hlen : l.length ≤ 4) (hy' : y < 12) :
   Claim w p loose mean mg mb 83 3 [] [.str (strOf l) t, .int ((y : Nat) : Int) ty] (fun _ => True) (ValRet fun t => .str (strOf (writtenL l y)) t) := by
  have hlx := strOf_length l
  have hy : ((y : Nat) : Int) < 12 := by omega
  have hsA : (Str.ofString "\"").length + (strOf l).length ≤ sizeLine := by rw [hlx, PySem.sizeLine_eq]; show 1 + l.length ≤ _; omega
  have hsB : (Str.ofString "\"" ++ strOf l).length + (Str.ofString "\"").length ≤ sizeLine := by rw [Str.length_append, hlx, PySem.sizeLine_eq]; show 1 + l.length + 1 ≤ _; omega
  dsimp only [Claim, PR]
  k_fill
  intro dp un gd cn cs a ccd cl outer A₀ base h₀ L m s Q E hB hC hF hX hN hT hk hd hu hp hret
  refine wpAny_call ?_
  walk_at "mine enter"
  intro g L1 h1 FG F1 N1 B1 X1 T1 G1
  dsimp only
  k_fold
  k_steps
  · have e : l = [] := by
      have h : (strOf l == Str.ofString "") = true := by assumption
      rw [lit_empty, strOf_beq] at h
      exact eq_of_beq h
    refine Done.intro (by assumption) (by assumption) [] (fun _ h => nomatch h) (ValRet.of (t := _) (congrArg (Value.str · _) ?_))
    rw [lit_quote, strOf_append, strOf_append, writtenL, if_pos (.inl e)]; rfl
  · have e : y % 3 = 2 := (fmod3_iff y 2).mp (by assumption)
    refine Done.intro (by assumption) (by assumption) [] (fun _ h => nomatch h) (ValRet.of (t := _) (congrArg (Value.str · _) ?_))
    rw [lit_quote, strOf_append, strOf_append, writtenL, if_pos (.inr e)]; rfl
  · have e1 : y % 3 = 1 := (fmod3_iff y 1).mp (by assumption)
    have e0 : l ≠ [] := fun z => by
      have h : (strOf l == Str.ofString "") = false := by assumption
      rw [lit_empty, strOf_beq, z] at h
      cases h
    refine comp_str (_F₀ := by k_asm) (by with_unfolding_all rfl) (by decide) (by rfl) (by decide) (by rfl) ?_
    k_steps
    refine ⟨strOf l, t, [], rfl, rfl, by assumption, by assumption, by simp [strOf]; intro c hc; have := hl c hc; omega, by rw [PySem.sizeLine_eq]; simp [strOf]; omega, ?_⟩
    rintro s2 ⟨h2, rfl⟩
    refine comp_rest (SameJ [] fun i => (l.take i).map fun c => Str.ofString "\\" ++ ⟨#[c]⟩) (.mk .nil) ?_ ?_
    · intro i v I oI C oC D m₂ h tk E' hi
      intro ys
      refine SameJ.all ?_
      rintro hy ⟨c, u, hc, rfl⟩ hoC hx F N off ne
      have hc' : l[i]? = some c := by simpa [strOf] using hc
      have hsC : (Str.ofString "\\").length + (Str.mk #[c]).length ≤ sizeLine := by rw [PySem.sizeLine_eq]; exact Nat.le_of_ble_eq_true rfl
      k_steps
      refine .mk ?_
      rw [List.take_add_one, hc', Option.toList_some, List.map_append]
      exact hy.append' (.cons _ _ .nil)
    · intro ys
      refine SameJ.all ?_
      intro hy
      have hyl : (strOf l).cps.size = l.length := by simp [strOf]
      rw [hyl, List.take_length] at hy
      intro D h tk F N off
      k_steps
      refine join_listC (N.isList (by news_mem)) hy (by decide) (by rw [esc_weight, List.length_map]; omega) ?_
      intro t9 k9
      have hj : Txt.join (Str.ofString "") (l.map fun c => Str.ofString "\\" ++ ⟨#[c]⟩) = strOf (l.flatMap fun c => [92, c]) := by rw [esc_map, join_none, List.flatMap_def]
      have hsD : (Txt.join (Str.ofString "") (l.map fun c => Str.ofString "\\" ++ ⟨#[c]⟩)).length + (Txt.item (Str.ofString " \t\r\n") (((y : Nat) : Int).fdiv 3)).length ≤ sizeLine := by
        rw [hj, item_blank y hy', strOf_length, strOf_length, esc_len, PySem.sizeLine_eq]; show 2 * l.length + 1 ≤ _; omega
      k_steps
      refine Done.intro (by assumption) (by assumption) [] (fun _ h => nomatch h) (ValRet.of (t := _) (congrArg (Value.str · _) ?_))
      rw [hj, item_blank y hy', strOf_append, writtenL, if_neg (by simp [e0, e1]), if_pos e1]
  · have e1 : y % 3 ≠ 1 := fun z => absurd ((fmod3_iff y 1).mpr z) (by assumption)
    have e2 : y % 3 ≠ 2 := fun z => absurd ((fmod3_iff y 2).mpr z) (by assumption)
    have e0 : l ≠ [] := fun z => by
      have h : (strOf l == Str.ofString "") = false := by assumption
      rw [lit_empty, strOf_beq, z] at h
      cases h
    refine Done.intro (by assumption) (by assumption) [] (fun _ h => nomatch h) (ValRet.of (t := _) (congrArg (Value.str · _) ?_))
    rw [item_blank y hy', strOf_append, writtenL, if_neg (by simp [e0, e2]), if_neg e1]
end
end
theorem words_none_CallIt : True := by
  w_top off
  k_with_none
  exact True.intro
section
open Builtin
set_option maxRecDepth 100000
theorem owner_callable : Manifest.owners.lookup (String.ofList ['r', 'o', 't', 'a', 'r', 'e', 't', 'i', '_', 'e', 'l', 'b', 'a', 'l', 'l', 'a', 'c'].reverse) = some Manifest.sig_callable_iterator := by kernel_rfl
theorem slot_callable_next : Slot "callable_iterator" "__next__" "callable_iterator.__next__" :=
  .of (owner := "callable_iterator") (n := "__next__") (by rw [typeLookup_type, builtinLookup_eq_fast]; kernel_rfl) (by decide +kernel) (by decide +kernel) (by decide +kernel)
    (by first | exact .inl (by decide +kernel) | exact .inr (by decide +kernel)) (by rw [isSubtype_type]; kernel_rfl)
theorem entry_callable_next : entryFor table "callable_iterator.__next__" = some Builtin.«callable_iterator.__next__» := entryFor_of_tree (by kernel_rfl)
theorem args_callable_next (a : Value) : argsOk "callable_iterator.__next__" ⟨[a], []⟩ := by
  unfold argsOk; rw [signature?_of (id := "callable_iterator.__next__") (n := ['_', '_', 't', 'x', 'e', 'n', '_', '_']) (o := ['r', 'o', 't', 'a', 'r', 'e', 't', 'i', '_', 'e', 'l', 'b', 'a', 'l', 'l', 'a', 'c']) (by kernel_rfl) owner_callable]; kernel_rfl
theorem slot_callable_iter : Slot "callable_iterator" "__iter__" "callable_iterator.__iter__" :=
  .of (owner := "callable_iterator") (n := "__iter__") (by rw [typeLookup_type, builtinLookup_eq_fast]; kernel_rfl) (by decide +kernel) (by decide +kernel) (by decide +kernel)
    (by first | exact .inl (by decide +kernel) | exact .inr (by decide +kernel)) (by rw [isSubtype_type]; kernel_rfl)
theorem entry_callable_iter : entryFor table "callable_iterator.__iter__" = some Builtin.«dict_keyiterator.__iter__» := entryFor_alias (id' := "dict_keyiterator.__iter__") (by kernel_rfl) rfl (by decide +kernel) (by kernel_rfl)
theorem args_callable_iter (a : Value) : argsOk "callable_iterator.__iter__" ⟨[a], []⟩ := by
  unfold argsOk; rw [signature?_of (id := "callable_iterator.__iter__") (n := ['_', '_', 'r', 'e', 't', 'i', '_', '_']) (o := ['r', 'o', 't', 'a', 'r', 'e', 't', 'i', '_', 'e', 'l', 'b', 'a', 'l', 'l', 'a', 'c']) (by kernel_rfl) owner_callable]; kernel_rfl
theorem slot_method_call : Slot "method" "__call__" "method.__call__" :=
  .of (owner := "method") (n := "__call__") (by rw [typeLookup_type, builtinLookup_eq_fast]; kernel_rfl) (by decide +kernel) (by decide +kernel) (by decide +kernel)
    (by first | exact .inl (by decide +kernel) | exact .inr (by decide +kernel)) (by rw [isSubtype_type]; kernel_rfl)
theorem kind_iter : builtinKind "iter" = none := by decide +kernel
theorem plain_iter : plainId "iter" = true := by decide +kernel
theorem entry_iter : entryFor table "iter" = some Builtin.«iter» := entryFor_of_tree (by kernel_rfl)
theorem args_iter_2 (a b : Value) : argsOk "iter" ⟨[a, b], []⟩ := by unfold argsOk; kernel_rfl
noncomputable abbrev citObj (mo : Addr) (x : Str) (t : Tok) : Obj := { cls := .type "callable_iterator", data := .fields #[.ref mo, .str x t, .bool false] }
section
variable {prog : Program} {w : World} {M : Model} {A : Around} {s : Shared} {env : Env} {h₀ : Heap} {L : Addr} {m : Str → Option Value} {news : List (Addr × Obj)} {E : Value → Shared → Prop}
theorem call_iter2 {mo f : Addr} {self : Value} {x : Str} {t : Tok} {Q : Value → Shared → Prop} (F : Fr h₀ L s.heap m) (N : News h₀ L s.heap news) (hm : (mo, methodObj (.ref f) self) ∈ news)
    (h : ∀ it h', Fr h₀ L h' m → News h₀ L h' ((it, citObj mo x t) :: news) → (∀ p ∈ news, p.1 < it) → GSub s.heap h' [] → Q (.ref it) { s with heap := h' }) : wpAny (model prog w) A (call (.builtin "iter") [.ref mo, .str x t]) Q E s := by
  have hT : s.TypeIs (.ref mo) "method" := ⟨_, (N _ hm).1, rfl⟩
  refine Calls.call_function_entry kind_iter plain_iter entry_iter (args_iter_2 _ _) ?_
  unfold Builtin.«iter»
  refine wpAny_bind (wpAny_of_eq (a := [.ref mo, .str x t]) (by first | rfl | kernel_rfl) ?_)
  dsimp only
  refine wpAny_bind (wpAny_specialOf hT slot_method_call.lookup ?_)
  simp only [Option.isNone_some, Bool.false_eq_true, if_false]
  refine wpAny_bind (wpAny_rule ?_)
  refine wpAny_bind (wpAny_newObj_type (wpAny_pure ⟨_, rfl, ?_⟩))
  exact h _ _ (F.push _) (N.push F _) (fun p hp => Heap.lt_size (N p hp).1) fun b o e _ => Heap.get?_push_of_some _ e
theorem iter_call {it mo : Addr} {x : Str} {t : Tok} {Q : Value → Shared → Prop} (N : News h₀ L s.heap news) (hi : (it, citObj mo x t) ∈ news) (h : Q (.ref it) s) : wpAny (model prog w) A (pyIter (.ref it)) Q E s := by
  have hT : s.TypeIs (.ref it) "callable_iterator" := ⟨_, (N _ hi).1, rfl⟩
  refine wpAny_pyIter_slot hT slot_callable_iter (wpAny_call_entry slot_callable_iter hT entry_callable_iter ?_ (args_callable_iter _))
  show wpAny _ _ (ret (.ref it)) _ _ s
  exact wpAny_pure ⟨_, rfl, "callable_iterator", _, hT, slot_callable_next.lookup, h⟩
theorem callBorrowed_of {f : Value} {pos : List Value} {Q : Value → Shared → Prop} (hc : codeAny M A (.call f ⟨pos, []⟩) (fun r s' => match r with | .ok (.ret v) => Q v s' | .ok _ => False | .error e => E e s') s) : wpAny M A (callBorrowed f pos) Q E s := fun Γ p hΓ => by
  unfold callBorrowed
  rw [Sem.wp]
  refine wpCode_mono (fun r s' h => ?_) (hc _ p rfl (hΓ.enter _ none p (by intro x; cases x)))
  match r, h with
  | .ok (.ret v), h => exact h
  | .error e, h => exact h
theorem borrows_method {mo f : Addr} {self : Value} {Q : Bool → Shared → Prop} (hm : s.heap.get? mo = some (methodObj (.ref f) self)) (hf : FnAt f s.heap) (h : Q true s) : wpAny M A (borrowsExactly (.ref mo)) Q E s := by
  obtain ⟨hh, g, d, tk, os⟩ := s
  obtain ⟨oc, od, fd, sl, e⟩ := hf
  unfold borrowsExactly
  dsimp only
  refine wpAny_bind (wpAny_load hm ?_)
  show wpAny _ _ ((do match (← load f).data with
      | .func _ => pure true
      | _ => pure false) : Sem Bool) _ _ _
  refine wpAny_bind (wpAny_load e ?_)
  exact wpAny_pure h
noncomputable abbrev CallsBack (M : Model) (A : Around) (f : Addr) (vs : List Value) (Q : Value → Shared → Prop) (E : Value → Shared → Prop) (s : Shared) : Prop := codeAny M A (.call (.ref f) ⟨vs, []⟩) (fun r s' => match r with | .ok (.ret v) => Q v s' | .ok _ => False | .error e => E e s') s
noncomputable def CallTurn (it mo f : Addr) (self : Value) (x : Str) (t : Tok) (Q : Option Value → Shared → Prop) (v : Value) (s' : Shared) : Prop :=
  ∃ y u, v = .str y u ∧ s'.heap.get? it = some (citObj mo x t) ∧ s'.heap.get? mo = some (methodObj (.ref f) self) ∧ FnAt f s'.heap ∧ (y ≠ x → Q (some v) s') ∧ (y = x → ∀ h', Heap.ExtBut it s'.heap h' → Q none { s' with heap := h' })
theorem next_call {it mo f : Addr} {self : Value} {x : Str} {t : Tok} {Q : Option Value → Shared → Prop} (hh : A.handled = none) (N : News h₀ L s.heap news) (hi : (it, citObj mo x t) ∈ news) (hm : (mo, methodObj (.ref f) self) ∈ news) (hf : FnAt f s.heap)
    (h : CallsBack (model prog w) A.in1 f [self] (CallTurn it mo f self x t Q) (fun _ _ => False) s) :
    wpAny (model prog w) A (pyNext (.ref it)) Q E s := by
  have hT : s.TypeIs (.ref it) "callable_iterator" := ⟨_, (N _ hi).1, rfl⟩
  have e1 := (N _ hi).1
  have e2 := (N _ hm).1
  unfold pyNext
  refine wpAny_bind (wpAny_attempt (wpAny_callSpecial?_slot (name := Str.ofString "__next__") hT slot_callable_next
    (wpAny_call_entry slot_callable_next hT entry_callable_next ?_ (args_callable_next _))))
  show wpAny _ _ (field (.ref it) 2 >>= _) _ _ s
  refine wpAny_bind (wpAny_field e1 rfl (x := .bool false) rfl ?_)
  show wpAny _ _ (field (.ref it) 0 >>= _) _ _ s
  refine wpAny_bind (wpAny_field e1 rfl (x := .ref mo) rfl ?_)
  refine wpAny_bind (wpAny_attempt ?_)
  unfold callOutOfASlot
  refine wpAny_bind (borrows_method e2 hf ?_)
  simp only [if_true]
  refine callBorrowed_of (method_call e2 (codeAny_mono h fun r s' hr => ?_))
  match r, hr with
  | .ok (.ret v), hr =>
    obtain ⟨y, u, rfl, f1, f2, f3, hy, hn⟩ := hr
    dsimp only
    refine wpAny_bind (wpAny_field f1 rfl (x := .bool false) rfl ?_)
    show wpAny _ _ (field (.ref it) 1 >>= _) _ _ s'
    refine wpAny_bind (wpAny_field f1 rfl (x := .str x t) rfl ?_)
    refine wpAny_bind (wpAny_holding (eqBool_str ?_))
    by_cases hxy : y = x
    · have hb : (x == y) = true := by rw [hxy]; exact beq_self_eq_true _
      simp only [hb, Bool.not_true, Bool.false_eq_true, if_false]
      refine wpAny_bind (wpAny_rule ?_)
      refine wpAny_bind ?_
      show wpAny _ _ (field (.ref it) 0 >>= _) _ _ s'
      refine wpAny_bind (wpAny_field f1 rfl (x := .ref mo) rfl ?_)
      show wpAny _ _ (slotLetsGo _ (.ref mo) _ >>= _) _ _ s'
      refine wpAny_bind ?_
      unfold slotLetsGo
      dsimp only
      refine wpAny_bind (borrows_method f2 f3 ?_)
      simp only [if_true]
      refine wpAny_pure ?_
      refine wpAny_bind (wpAny_setField_rec f1 (by simp) fun h1 g1 b1 => ?_)
      refine wpAny_bind (wpAny_setField_rec g1 (by simp) fun h2 g2 b2 => ?_)
      refine wpAny_setField_rec g2 (by simp) fun h3 g3 b3 => ?_
      show wpAny _ _ (newExc (.type "StopIteration") [] >>= _) _ _ _
      refine wpAny_bind ?_
      simp only [newExc, newTuple]
      refine wpAny_bind (wpAny_newObj_type ?_ (by size_fits))
      refine wpAny_bind (m := firstArgMember _ _) (wpAny_of_eq (a := Value.none) (by first | rfl | (simp only [firstArgMember]; rfl)) ?_)
      refine wpAny_newObj_type ?_ (by size_fits)
      simp only [raiseNew]
      refine wpAny_bind (wpAny_handled ?_)
      rw [show A.in1.handled = none from hh]
      refine wpAny_bind (wpAny_pure (wpAny_throw ?_))
      refine wpAny_bind (wpAny_isInstance (T := "StopIteration") (b := true) ⟨_, Heap.get?_push_size _ rfl, rfl⟩ isSubtype_stop ?_)
      exact wpAny_pure (hn hxy _ fun b o hb e => Heap.get?_push_of_some _ (Heap.get?_push_of_some _ (b3.extBut b o hb (b2.extBut b o hb (b1.extBut b o hb e)))))
    · have hb : (x == y) = false := beq_eq_false_iff_ne.mpr (Ne.symm hxy)
      simp only [hb, Bool.not_false, if_true]
      exact wpAny_bind (wpAny_pure (wpAny_pure ⟨_, rfl, wpAny_pure (hy hxy)⟩))
end
end
section
open PySem PySem.W PyProof.Rows PySem.Calls
set_option maxRecDepth 100000
section
variable {prog : Program} {w : World} {A₀ A : Around} {E : Value → Shared → Prop} {s : Shared} {base h₀ : Heap} {outer : List Env} {L : Addr} {m : Str → Option Value} {env : Env} {news : List (Addr × Obj)} {K : Frag} {p : Program} {loose : List Str} {mean : ExcName → Option Value} {mg mb : Str → Option Value}
  {name qual : Str} {params : Arguments} {body : List Stmt} {scope : Scope} {dV kV doc pm cdv ct oc : Value} {an od : Option Addr} {osl : Array (Option Value)} {f : Addr} {args : Args} {binds : List (Str × Value)} {Q : Value → Shared → Prop} {Ret : Value → List (Addr × Obj) → Prop}
theorem ground_sub (s : Shared) (adr : List Addr) : GSub s.heap (hideAll s.heap adr) adr := fun _ _ e n => hideAll_get _ e n
/-- what is known when a def's body begins, over a ghost heap that hides the ledger -/
theorem enter_cells (B : Below A₀ base outer h₀) (F : Fr h₀ L s.heap m) (X₀ : K.In h₀) (N : News h₀ L s.heap news) (T : Top p loose mean mg mb h₀) (hA : A.frames = some (env :: outer)) (hf : env.frame = some L) (hke : env.scope.kind = .function)
    (ho : K.lookup f = some ⟨oc, od, .func (fnOf name qual params body scope dV kV doc pm an cdv ct), osl⟩) (hcd : codeIn K cdv qual = true) (hroom : A.depth < recursionLimit)
    (hbind : BindsTo s (fnOf name qual params body scope dV kV doc pm an cdv ct) args binds) (hkind : (binds.all fun y => scope.names.lookup y.1 == some .local || scope.names.lookup y.1 == some .cell) = true)
    (hnd : ((cellsFrom 0 scope.names []).map (·.1)).Nodup)
    (hret : Back s h₀ L m news Q Ret)
    (h : ∀ g L' h₁ tk cells, Fr h₀ L g m → Fr g L' h₁ (bindL (envOfC qual scope L' f cdv).kindOf binds fun _ => none) → News g L' h₁ (cells ++ news) →
      CellsAre (bindC (envOfC qual scope L' f cdv).kindOf binds fun _ => none) (cellsFrom (L' + 1) scope.names []) cells → Below A base (env :: outer) g → K.In g → Top p loose mean mg mb g → GSub s.heap g (news.map (·.1)) → (∀ p ∈ news, p.1 < L') →
      wpAny (model prog w) (A.deeper (envOfC qual scope L' f cdv)) (execs body (envOfC qual scope L' f cdv))
        (fun fl s' => Done g L' s Ret (match fl with | .ret v => v | _ => .none) s')
        (fun _ _ => False) { s with heap := h₁, toks := tk })
    (hco : scope.isCoroutine = false) (hgen : scope.isGenerator = false) (hk : scope.kind = .function) : codeAny (model prog w) A (.call (.ref f) args) (fun r s' => match r with | .ok (.ret v) => Q v s' | .ok _ => False | .error e => E e s') s := by
  obtain ⟨FG, BG, st, lv⟩ := groundX (R := fun r s' => match r with | .ok (.ret v) => Q v s' | .ok _ => False | .error e => E e s') B F N hA hf hke
  have G₁ := ground_sub s (news.map (·.1))
  have hlim := T.nolimit
  refine codeAny_call_function hroom ((X₀.keeps F.keep) _ _ ho) rfl hco hgen rfl (codeRec_of (X₀.keeps F.keep) hcd) (hbind _ _ _ _ ?_)
  refine wpAny_newFunctionEnv_cells hk (kindsX hkind _) fun env' he s' x => ?_
  subst he
  refine ⟨(hlim.keeps F.keep).keeps x.toInCall.keep, codeAny_func ?_⟩
  obtain ⟨h₁, tk, rfl, _⟩ := x.done
  have hk₁ := x.toInCall.keep
  obtain ⟨cells, NC, Y⟩ := Cl.news (h₀ := s.heap) (Nat.le_refl _) fun n c hm => ⟨x.cell n c (lookup_of_mem_nodup (cellsFrom_names scope.names 0 (s.heap.objs.size + 1) [] [] rfl ▸ hnd) hm), x.above n c hm⟩
  have NN : News (hideAll s.heap (news.map (·.1))) s.heap.objs.size h₁ (cells ++ news) := fun p hp => by
    rcases List.mem_append.mp hp with hp | hp
    · refine ⟨(NC p hp).1, (NC p hp).2.1, ?_⟩
      cases q : (hideAll s.heap (news.map (·.1))).get? p.1 with
      | none => rfl
      | some o => have := of_hideAll _ q; rw [(NC p hp).2.2] at this; cases this
    · exact ⟨hk₁ _ _ (N p hp).1, Nat.ne_of_lt (Heap.lt_size (N p hp).1), hideAll_none _ (List.mem_map_of_mem hp)⟩
  refine wpAny_mono (h _ s.heap.objs.size h₁ tk cells FG ⟨x.toInCall.ns, fun b o e => hk₁ b o (of_hideAll _ e), Nat.le_of_eq (hideAll_size _ _)⟩ NN Y BG (X₀.keeps st) (T.keeps st) G₁ (fun p hp => Heap.lt_size (N p hp).1)) (fun fl s' hl => ?_) fun _ _ y => y.elim
  obtain ⟨m', news', h', tk', F', N', hr⟩ := hl
  refine lv _ _ ⟨s.heap.objs.size, m', news', F', N', fun kF kN => ?_⟩
  exact hret _ news' hr h' tk' kF kN (fun b o e nb => F'.keep b o (G₁ b o e nb)) (later_of G₁ N')
/-- entering a def that stands in the ledger -/
theorem enter_made {cl : List (Str × Addr)} {fo : Obj} (B : Below A₀ base outer h₀) (F : Fr h₀ L s.heap m) (X₀ : K.In h₀) (N : News h₀ L s.heap news) (T : Top p loose mean mg mb h₀) (hA : A.frames = some (env :: outer)) (hf : env.frame = some L) (hke : env.scope.kind = .function)
    (ho : (f, fo) ∈ news) (hd : fo.data = .func (fnX name qual params body scope cl dV kV doc pm an cdv ct)) (hcd : s.heap.CodeRec cdv qual) (hroom : A.depth < recursionLimit)
    (hbind : BindsTo s (fnX name qual params body scope cl dV kV doc pm an cdv ct) args binds) (hloc : ∀ y ∈ binds, scope.names.lookup y.1 = some .local)
    (hret : Back s h₀ L m news Q Ret)
    (h : ∀ g L' h₁, Fr h₀ L g m → Fr g L' h₁ (fun y => binds.reverse.lookup y) → News g L' h₁ news → Below A base (env :: outer) g → K.In g → Top p loose mean mg mb g → GSub s.heap g (news.map (·.1)) →
      wpAny (model prog w) (A.deeper (envX qual scope L' f cdv cl)) (execs body (envX qual scope L' f cdv cl))
        (fun fl s' => Done g L' s Ret (match fl with | .ret v => v | _ => .none) s')
        (fun _ _ => False) { s with heap := h₁, toks := s.toks + binds.length })
    (hco : scope.isCoroutine = false) (hgen : scope.isGenerator = false) (hk : scope.kind = .function)
    (hcell : ∀ x ∈ scope.names, x.2 ≠ .cell) : codeAny (model prog w) A (.call (.ref f) args) (fun r s' => match r with | .ok (.ret v) => Q v s' | .ok _ => False | .error e => E e s') s := by
  obtain ⟨FG, BG, st, lv⟩ := groundX (R := fun r s' => match r with | .ok (.ret v) => Q v s' | .ok _ => False | .error e => E e s') B F N hA hf hke
  have G₁ := ground_sub s (news.map (·.1))
  refine codeAny_call_def (fd := fnX name qual params body scope cl dV kV doc pm an cdv ct) (body := body) (binds := binds) hroom (N _ ho).1 hd (T.nolimit.keeps F.keep) hcd rfl hbind hcell hloc (fun h₁ hns hk₁ => ?_) hco hgen hk
  refine wpAny_mono (h _ s.heap.objs.size h₁ FG ⟨hns, fun b o e => hk₁ b o (of_hideAll _ e), Nat.le_of_eq (hideAll_size _ _)⟩
    (fun p hp => ⟨hk₁ _ _ (N p hp).1, Nat.ne_of_lt (Heap.lt_size (N p hp).1), hideAll_none _ (List.mem_map_of_mem hp)⟩) BG (X₀.keeps st) (T.keeps st) G₁) (fun fl s' hl => ?_) fun _ _ y => y.elim
  obtain ⟨m', news', h', tk', F', N', hr⟩ := hl
  refine lv _ _ ⟨s.heap.objs.size, m', news', F', N', fun kF kN => ?_⟩
  exact hret _ news' hr h' tk' kF kN (fun b o e nb => F'.keep b o (G₁ b o e nb)) (later_of G₁ N')
end
/-- the contract in the form that a C iterator's call wants -/
noncomputable abbrev ClaimC (w : World) (p : Program) (loose : List Str) (mean : ExcName → Option Value) (mg mb : Str → Option Value) (f : Addr) (deep : Nat) (news : List (Addr × Obj)) (vs : List Value) (Pre : Heap → Prop) (Ret : Value → List (Addr × Obj) → Prop) : Prop :=
  ∀ (dp un : Nat) (gd : Option (List Code)) (cn : Str) (cs : Scope) (a : Addr) (ccd : Value) (cl : List (Str × Addr)) (outer : List Env) (A₀ : Around) (base h₀ : Heap) (L : Addr) (m : Str → Option Value) (s : Shared) (Q E : Value → Shared → Prop),
    Below A₀ base outer h₀ → CodeHd base 89 85 → Fr h₀ L s.heap m → (hd.heap_1 w.params).In h₀ → News h₀ L s.heap news → Top p loose mean mg mb h₀ → cs.kind = .function →
    dp + deep < recursionLimit → un + 8 * deep < cLine → Pre s.heap → Back s h₀ L m news Q Ret →
      CallsBack (model PR w) (ktrTop dp un gd cn cs L a ccd cl outer) f vs Q E s
theorem ClaimC.toClaim {w : World} {p : Program} {loose : List Str} {mean : ExcName → Option Value} {mg mb : Str → Option Value} {f : Addr} {deep : Nat} {news : List (Addr × Obj)} {vs : List Value} {Pre : Heap → Prop} {Ret : Value → List (Addr × Obj) → Prop}
    (h : ClaimC w p loose mean mg mb f deep news vs Pre Ret) : Claim w p loose mean mg mb f deep news vs Pre Ret := by
  intro dp un gd cn cs a ccd cl outer A₀ base h₀ L m s Q E hB hC hF hX hN hT hk hd hu hp hret
  exact wpAny_call (h dp un gd cn cs a ccd cl outer A₀ base h₀ L m s Q E hB hC hF hX hN hT hk hd hu hp hret)
theorem Done.all {g : Heap} {L' : Addr} {s : Shared} {Ret : Value → List (Addr × Obj) → Prop} {v : Value} {m' : Str → Option Value} {all : List (Addr × Obj)} {h' : Heap} {tk' : Nat} (F : Fr g L' h' m') (N : News g L' h' all) (r : Ret v all) :
    Done g L' s Ret v { s with heap := h', toks := tk' } := Done.intro F N all (fun _ h => h) r
theorem name_list {h₀ h : Heap} {L D : Addr} {x y : Addr × Obj} {ws : List Value} {n : Nat} {rest : List (Addr × Obj)} {P : Prop} (_N : News h₀ L h (x :: y :: (D, W.listOf ws.toArray n) :: rest)) (k : ∀ D' ws', D' = D → ws' = ws → P) : P := k _ _ rfl rfl
theorem News.subs {h₀ h : Heap} {L : Addr} {all news : List (Addr × Obj)} (N : News h₀ L h all) (sub : ∀ p ∈ news, p ∈ all) : News h₀ L h news := fun p hp => N p (sub p hp)
theorem News.keep0 {h₀ h h' : Heap} {L : Addr} {all : List (Addr × Obj)} (N : News h₀ L h all) (G : GSub h h' ([] : List Addr)) : News h₀ L h' all := fun p hp => ⟨G _ _ (N p hp).1 (List.not_mem_nil), (N p hp).2⟩
theorem News.join {h₀ h h' : Heap} {L : Addr} {all rest news' : List (Addr × Obj)} {adr : List Addr} (N : News h₀ L h all) (G : GSub h h' adr) (N' : News h₀ L h' news') (hr : ∀ p ∈ rest, p ∈ all) (hn : ∀ p ∈ rest, p.1 ∉ adr) : News h₀ L h' (news' ++ rest) := fun p hp => by
  rcases List.mem_append.mp hp with hp | hp
  · exact N' p hp
  · exact ⟨G _ _ (N p (hr p hp)).1 (hn p hp), (N p (hr p hp)).2⟩
/-- what a call made is none of what stood -/
theorem news_ne {h₀ h : Heap} {L : Addr} {all news' : List (Addr × Obj)} {adr : List Addr} (N : News h₀ L h all) (O : ∀ p ∈ news', p.1 ∈ adr ∨ h.get? p.1 = none) {a b : Addr} {oa ob : Obj} (ha : (a, oa) ∈ news') (hn : a ∉ adr) (hb : (b, ob) ∈ all) : @Ne Nat a b := fun e => by
  rcases O _ ha with k | k
  · exact hn k
  · have := (N _ hb).1
    rw [show h.get? b = none from e ▸ k] at this; cases this
end
section
open PySem PySem.W PyProof.Rows PySem.Calls
theorem words_Lex : True := by
  k_with_none
  k_with "lt0" => (first | with_reducible assumption | exact And.left (by with_reducible assumption) | exact And.left (And.right (by with_reducible assumption)) | exact And.left (And.right (And.right (by with_reducible assumption))) | exact And.left (And.right (And.right (And.right (by with_reducible assumption)))) | exact And.left (And.right (And.right (And.right (And.right (by with_reducible assumption))))) | exact And.left (And.right (And.right (And.right (And.right (And.right (by with_reducible assumption)))))) | exact And.left (And.right (And.right (And.right (And.right (And.right (And.right (by with_reducible assumption))))))) | exact And.left (And.right (And.right (And.right (And.right (And.right (And.right (And.right (by with_reducible assumption)))))))) | exact And.left (And.right (And.right (And.right (And.right (And.right (And.right (And.right (And.right (by with_reducible assumption))))))))) | exact And.left (And.right (And.right (And.right (And.right (And.right (And.right (And.right (And.right (And.right (by with_reducible assumption)))))))))) | exact And.left (And.right (And.right (And.right (And.right (And.right (And.right (And.right (And.right (And.right (And.right (by with_reducible assumption))))))))))) | exact And.left (And.right (And.right (And.right (And.right (And.right (And.right (And.right (And.right (And.right (And.right (And.right (by with_reducible assumption)))))))))))) | exact And.right (by with_reducible assumption) | exact And.right (And.right (by with_reducible assumption)) | exact And.right (And.right (And.right (by with_reducible assumption))) | exact And.right (And.right (And.right (And.right (by with_reducible assumption)))) | exact And.right (And.right (And.right (And.right (And.right (by with_reducible assumption))))) | exact And.right (And.right (And.right (And.right (And.right (And.right (by with_reducible assumption)))))) | exact And.right (And.right (And.right (And.right (And.right (And.right (And.right (by with_reducible assumption))))))) | exact And.right (And.right (And.right (And.right (And.right (And.right (And.right (And.right (by with_reducible assumption)))))))) | exact And.right (And.right (And.right (And.right (And.right (And.right (And.right (And.right (And.right (by with_reducible assumption))))))))) | exact And.right (And.right (And.right (And.right (And.right (And.right (And.right (And.right (And.right (And.right (by with_reducible assumption)))))))))) | exact And.right (And.right (And.right (And.right (And.right (And.right (And.right (And.right (And.right (And.right (And.right (by with_reducible assumption))))))))))) | exact nat_lt1 _)
  k_with "ch" => (first | with_reducible assumption | (refine Nat.lt_trans (by with_reducible assumption) ?_; k_extra "ch"))
  k_with "lt" => (first | k_extra "lt0" | exact nat_ltS (by k_extra "lt0") | exact nat_ltS (nat_ltS (by k_extra "lt0")) | exact nat_ltS (nat_ltS (nat_ltS (by k_extra "lt0"))) | exact nat_ltS (nat_ltS (nat_ltS (nat_ltS (by k_extra "lt0")))) | exact nat_ltS (nat_ltS (nat_ltS (nat_ltS (nat_ltS (by k_extra "lt0"))))) | exact nat_ltS (nat_ltS (nat_ltS (nat_ltS (nat_ltS (nat_ltS (by k_extra "lt0")))))) | exact nat_ltS (nat_ltS (nat_ltS (nat_ltS (nat_ltS (nat_ltS (nat_ltS (by k_extra "lt0"))))))) | exact nat_ltS (nat_ltS (nat_ltS (nat_ltS (nat_ltS (nat_ltS (nat_ltS (nat_ltS (by k_extra "lt0")))))))) | k_extra "ch")
  k_with "omega" => (first
    | with_reducible assumption
    | exact Nat.ne_of_lt (by with_reducible assumption) | exact Nat.ne_of_gt (by with_reducible assumption)
    | exact nat_room2 (by with_reducible assumption) (by rfl) | exact nat_room1 (by with_reducible assumption) (by rfl) | exact nat_room3 (by with_reducible assumption) (by rfl) | exact nat_room0 (by with_reducible assumption)
    | exact nat_meas (by with_reducible assumption) | exact nat_meas (Nat.lt_succ_of_lt (by with_reducible assumption))
    | exact c_low (by with_reducible assumption) (by rfl) | exact c_high (by with_reducible assumption) (by rfl) | exact c_lt (by with_reducible assumption) (by rfl)
    | exact Nat.succ_le_of_lt (by with_reducible assumption) | exact Nat.lt_succ_of_le (by with_reducible assumption)
    | exact And.intro (by k_extra "lt") (by k_extra "lt")
    | exact Int.natCast_nonneg _ | exact Int.ofNat_lt.mpr (by with_reducible assumption) | exact Int.ofNat_le.mpr (by with_reducible assumption) | exact int_lt (by with_reducible assumption) (by decide) | exact int_le (by with_reducible assumption) (by decide) | exact Int.lt_of_lt_of_le (by with_reducible assumption) (by decide) | exact Int.le_trans (Int.le_of_lt (by with_reducible assumption)) (by decide)
    | exact Nat.ne_of_lt (by k_extra "lt") | exact Nat.ne_of_gt (by k_extra "lt") | k_extra "lt"
    | exact Nat.le_trans (by with_reducible assumption) (by decide) | exact nat_eqle (by with_reducible assumption) (by decide) | exact Nat.le_trans (Nat.succ_le_succ (by with_reducible assumption)) (by decide) | exact Nat.le_of_lt (by with_reducible assumption) | exact Nat.le_of_eq (by with_reducible assumption)
    | decide)
  exact True.intro
/-- the lexer that _law_lexer makes: its addresses, the key strings' tokens, the def that it was given -/
structure LexA where
  (c2 c1 pl cc rd sd sx spb dx lx pb : Addr)
  (o2 o1 oc : Obj)
  (fc : Value) (fdt : Option Addr) (fd : FuncData) (fsl : Array (Option Value))
  (k0 k1 k2 k3 k4 : Tok)
  (osd : Obj)
noncomputable abbrev LexA.fo (a : LexA) : Obj := ⟨a.fc, a.fdt, .func a.fd, a.fsl⟩
noncomputable def LexA.Ordered (a : LexA) : Prop := @LT.lt Nat _ a.c2 a.c1 ∧ @LT.lt Nat _ a.c1 a.pl ∧ @LT.lt Nat _ a.pl a.cc ∧ @LT.lt Nat _ a.cc a.rd ∧ @LT.lt Nat _ a.rd a.sd ∧ @LT.lt Nat _ a.sd a.sx ∧ @LT.lt Nat _ a.sx a.dx ∧ @LT.lt Nat _ a.dx a.lx ∧ @LT.lt Nat _ a.lx a.pb
/-- the ledger of the def that reads -/
noncomputable def readN (a : LexA) (pos : Int) (tp : Tok) (np : Nat) : List (Addr × Obj) :=
  [(a.rd, ⟨a.fc, a.fdt, .func a.fd, a.fsl⟩), (a.cc, a.oc), (a.pl, W.listOf #[.int pos tp] np), (a.c1, a.o1), (a.c2, a.o2)]
noncomputable def lexN (w : World) (a : LexA) (line : Int) (tl : Tok) (items : Array Value) (n : Nat) (pos : Int) (tp : Tok) (np : Nat) : List (Addr × Obj) :=
  [(a.pb, W.listOf items n), (a.lx, instObj 67 a.dx),
   (a.dx, dictOf [⟨PyData.keyHash w.params "lineno", .str "lineno" a.k0, .int line tl⟩, ⟨PyData.keyHash w.params "instream", .str "instream" a.k1, .ref a.sx⟩, ⟨PyData.keyHash w.params "whitespace", .str "whitespace" a.k2, .str "\n\t\r " a.k3⟩, ⟨PyData.keyHash w.params "pushback", .str "pushback" a.k4, .ref a.pb⟩] 4),
   (a.sx, instObj 67 a.sd),
   (a.sd, a.osd),
   (a.rd, ⟨a.fc, a.fdt, .func a.fd, a.fsl⟩), (a.cc, a.oc), (a.pl, W.listOf #[.int pos tp] np), (a.c1, a.o1), (a.c2, a.o2)]
theorem indices_clip {n : Nat} {o : Option Int} {j : Int} (h : (n : Int) ≤ j) : PySem.Builtin.Str.strSliceIndices o (some j) 1 n = PySem.Builtin.Str.strSliceIndices o (some (n : Int)) 1 n := by
  have h0 : ¬ j < 0 := by omega
  have h1 : ¬ ((n : Int) < 0) := by omega
  have h2 : (1 : Int) > 0 := by decide
  simp only [PySem.Builtin.Str.strSliceIndices, h0, h1, h2, if_false, if_true, Int.min_eq_right h, Int.min_self]
theorem slice_clip {x : Str} {o : Option Int} {j : Int} (h : (x.length : Int) ≤ j) : Txt.slice x o (some j) = Txt.slice x o (some (x.length : Int)) := by
  unfold Txt.slice
  rw [indices_clip h]
theorem slice_one (l : List Nat) (pos : Nat) (h : pos ≤ l.length) : Txt.slice (strOf l) (some (pos : Int)) (some ((pos : Int) + 1)) = strOf ((l.drop pos).take 1) := by
  have hn : (strOf l).length = l.length := strOf_length l
  have hc : (strOf l).cps.toList = l := by simp [strOf]
  by_cases hp : pos < l.length
  · have k := eq_of_beq (slice_closes (x := strOf l) (i := (pos : Int)) (j := (pos : Int) + 1) ⟨by omega, by omega, by rw [hc]; omega⟩)
    rw [k, hc]
    have e1 : ((pos : Int) + 1 - pos).toNat = 1 := by omega
    rw [e1, Int.toNat_natCast]; rfl
  · have e : pos = l.length := by omega
    subst e
    rw [slice_clip (by rw [hn]; omega), hn]
    have k := eq_of_beq (slice_closes (x := strOf l) (i := (l.length : Int)) (j := (l.length : Int)) ⟨by omega, by omega, by rw [hc]; omega⟩)
    rw [k, hc]
    simp [strOf]
theorem slice_head (l : List Nat) : Txt.slice (strOf l) none (some 1) = strOf (l.take 1) := by
  have hn : (strOf l).length = l.length := strOf_length l
  have hc : (strOf l).cps.toList = l := by simp [strOf]
  by_cases hp : 1 ≤ l.length
  · have k := eq_of_beq (slice_closes_to (x := strOf l) (j := 1) ⟨by omega, by rw [hc]; omega⟩)
    rw [k, hc]; rfl
  · have e : l = [] := List.length_eq_zero_iff.mp (by omega)
    subst e
    rw [slice_clip (by rw [hn]; simp)]
    have k := eq_of_beq (slice_closes_to (x := strOf []) (j := ((strOf []).length : Int)) ⟨by rw [hn]; simp, by rw [hn, hc]; simp⟩)
    rw [k]; rfl
theorem len_fits {x : Str} (h : x.length ≤ sizeLine) : ¬ (x.length : Int) ≥ 2 ^ 63 := by
  rw [PySem.sizeLine_eq] at h; omega
theorem len_fitS {x : Str} {o u : Option Int} (h : x.length ≤ sizeLine) : ¬ ((Txt.slice x o u).length : Int) ≥ 2 ^ 63 := len_fits (Nat.le_trans (Txt.slice_le x o u) h)
/-- the next piece of the text -/
noncomputable def chunk (l : List Nat) (pos : Nat) : List Nat := (l.drop pos).take 1
/-- what a call gives back: a value of some token, a ledger of some tokens -/
inductive ReadRet (a : LexA) (pos : Int) (np : Nat) (f : Tok → Value) : Value → List (Addr × Obj) → Prop
  | mk (tp t : Tok) : ReadRet a pos np f (f t) (readN a pos tp np)
set_option autoImplicit false in
theorem ReadRet.all {a : LexA} {pos : Int} {np : Nat} {f : Tok → Value} {P : Value → List (Addr × Obj) → Prop} (h : ∀ (tp t : Tok), P (f t) (readN a pos tp np)) : ∀ (x0 : Value) (x1 : List (Addr × Obj)), ReadRet a pos np f x0 x1 → P x0 x1 :=
  fun _ _ t => ReadRet.rec (motive := fun x0 x1 _ => P x0 x1) h t
inductive TokRet (w : World) (a : LexA) (line : Int) (items : Array Value) (n : Nat) (pos : Int) (np : Nat) (f : Tok → Value) : Value → List (Addr × Obj) → Prop
  | mk (tl tp t : Tok) : TokRet w a line items n pos np f (f t) (lexN w a line tl items n pos tp np)
set_option autoImplicit false in
theorem TokRet.all {w : World} {a : LexA} {line : Int} {items : Array Value} {n : Nat} {pos : Int} {np : Nat} {f : Tok → Value} {P : Value → List (Addr × Obj) → Prop} (h : ∀ (tl tp t : Tok), P (f t) (lexN w a line tl items n pos tp np)) : ∀ (x0 : Value) (x1 : List (Addr × Obj)), TokRet w a line items n pos np f x0 x1 → P x0 x1 :=
  fun _ _ t => TokRet.rec (motive := fun x0 x1 _ => P x0 x1) h t
inductive PutRet (v : Value) (f : Nat → List (Addr × Obj)) : Value → List (Addr × Obj) → Prop
  | mk (n : Nat) : PutRet v f v (f n)
set_option autoImplicit false in
theorem PutRet.all {v : Value} {f : Nat → List (Addr × Obj)} {P : Value → List (Addr × Obj) → Prop} (h : ∀ (n : Nat), P v (f n)) : ∀ (x0 : Value) (x1 : List (Addr × Obj)), PutRet v f x0 x1 → P x0 x1 :=
  fun _ _ t => PutRet.rec (motive := fun x0 x1 _ => P x0 x1) h t
noncomputable def sdObj (w : World) (spb rd : Addr) (j0 j1 j2 j3 j4 j5 j6 : Tok) : Obj := dictOf [⟨PyData.keyHash w.params "lineno", .str "lineno" j0, .int 1 j1⟩, ⟨PyData.keyHash w.params "instream", .str "instream" j2, .none⟩, ⟨PyData.keyHash w.params "whitespace", .str "whitespace" j3, .str "\n\t\r " j4⟩, ⟨PyData.keyHash w.params "pushback", .str "pushback" j5, .ref spb⟩, ⟨PyData.keyHash w.params "read", .str "read" j6, .ref rd⟩] 5
noncomputable def ReadCl (w : World) (l : List Nat) (a : LexA) : Prop :=
  (∃ j0 j1 j2 j3 j4 j5 j6 : Tok, a.osd = sdObj w a.spb a.rd j0 j1 j2 j3 j4 j5 j6) ∧ ∀ (p : Program) (loose : List Str) (mean : ExcName → Option Value) (mg mb : Str → Option Value) (pos : Nat) (tp t1 : Tok) (n : Nat), pos ≤ l.length →
    Claim w p loose mean mg mb a.rd 1 (readN a (pos : Int) tp n) [.int 1 t1] (fun _ => True) (ReadRet a ((pos + (chunk l pos).length : Nat) : Int) n fun t' => .str (strOf (chunk l pos)) t')
inductive LexRet (w : World) (l : List Nat) : Value → List (Addr × Obj) → Prop
  | mk (tup : Addr) (a : LexA) (tl tp : Tok) (n np : Nat) (tb : Array Value) (ho : a.Ordered) (ht : @LT.lt Nat _ a.pb tup) (hr : ReadCl w l a) (h85 : @LT.lt Nat _ 85 a.c2) :
     LexRet w l (.ref tup) ((tup, { cls := .type "tuple", data := .seq #[.ref a.lx, .ref a.pl] }) :: lexN w a 1 tl #[] n 0 tp np ++ [(85, tabObj tb)])
set_option autoImplicit false in
theorem LexRet.all {w : World} {l : List Nat} {P : Value → List (Addr × Obj) → Prop} (h : ∀ (tup : Addr) (a : LexA) (tl tp : Tok) (n np : Nat) (tb : Array Value) (ho : a.Ordered) (ht : @LT.lt Nat _ a.pb tup) (hr : ReadCl w l a) (h85 : @LT.lt Nat _ 85 a.c2), P (.ref tup) ((tup, { cls := .type "tuple", data := .seq #[.ref a.lx, .ref a.pl] }) :: lexN w a 1 tl #[] n 0 tp np ++ [(85, tabObj tb)])) : ∀ (x0 : Value) (x1 : List (Addr × Obj)), LexRet w l x0 x1 → P x0 x1 :=
  fun _ _ t => LexRet.rec (motive := fun x0 x1 _ => P x0 x1) h t
theorem lexer_done {w : World} {l : List Nat} {g : Heap} {L' : Addr} {s : Shared} {m' : Str → Option Value} {h' : Heap} {tk' : Nat} {tup c2 c1 pl cc rd sd sx spb dx lx pb : Addr} {o2 o1 oc : Obj}
  {fc : Value} {fdt : Option Addr} {fd : FuncData} {fsl : Array (Option Value)} {k0 k1 k2 k3 k4 j0 j1 j2 j3 j4 j5 j6 tl tp : Tok} {n np n2 : Nat} {tb : Array Value} {items : Array Value}
  (F : Fr g L' h' m') (N : News g L' h' [(tup, { cls := .type "tuple", data := .seq #[.ref lx, .ref pl] }), (pb, W.listOf #[] n), (lx, instObj 67 dx),
   (dx, dictOf [⟨PyData.keyHash w.params "lineno", .str "lineno" k0, .int 1 tl⟩, ⟨PyData.keyHash w.params "instream", .str "instream" k1, .ref sx⟩, ⟨PyData.keyHash w.params "whitespace", .str "whitespace" k2, .str "\n\t\r " k3⟩, ⟨PyData.keyHash w.params "pushback", .str "pushback" k4, .ref pb⟩] 4),
   (spb, W.listOf items n2), (sx, instObj 67 sd),
   (sd, dictOf [⟨PyData.keyHash w.params "lineno", .str "lineno" j0, .int 1 j1⟩, ⟨PyData.keyHash w.params "instream", .str "instream" j2, .none⟩, ⟨PyData.keyHash w.params "whitespace", .str "whitespace" j3, .str "\n\t\r " j4⟩, ⟨PyData.keyHash w.params "pushback", .str "pushback" j5, .ref spb⟩, ⟨PyData.keyHash w.params "read", .str "read" j6, .ref rd⟩] 5),
   (rd, ⟨fc, fdt, .func fd, fsl⟩), (cc, oc), (pl, W.listOf #[.int 0 tp] np), (c1, o1), (c2, o2), (85, tabObj tb)])
  (ord : @LT.lt Nat _ 85 c2 ∧ @LT.lt Nat _ pb tup ∧ @LT.lt Nat _ c2 c1 ∧ @LT.lt Nat _ c1 pl ∧ @LT.lt Nat _ pl cc ∧ @LT.lt Nat _ cc rd ∧ @LT.lt Nat _ rd sd ∧ @LT.lt Nat _ sd sx ∧ @LT.lt Nat _ sx dx ∧ @LT.lt Nat _ dx lx ∧ @LT.lt Nat _ lx pb)
  (read : ReadCl w l ⟨c2, c1, pl, cc, rd, sd, sx, spb, dx, lx, pb, o2, o1, oc, fc, fdt, fd, fsl, k0, k1, k2, k3, k4, sdObj w spb rd j0 j1 j2 j3 j4 j5 j6⟩) :
  Done g L' s (LexRet w l) (.ref tup) { s with heap := h', toks := tk' } := by
  refine Done.intro F N _ ?_ (.mk tup ⟨c2, c1, pl, cc, rd, sd, sx, spb, dx, lx, pb, o2, o1, oc, fc, fdt, fd, fsl, k0, k1, k2, k3, k4, sdObj w spb rd j0 j1 j2 j3 j4 j5 j6⟩ tl tp n np tb ord.2.2 ord.2.1 read ord.1)
  intro p hp
  simp only [lexN, sdObj, List.cons_append, List.nil_append, List.mem_cons, List.not_mem_nil, or_false] at hp ⊢
  rcases hp with h | h | h | h | h | h | h | h | h | h | h | h <;> simp [h]
theorem read_done {l : List Nat} {pos : Nat} (hp : pos ≤ l.length) {a : LexA} {g : Heap} {L' : Addr} {s : Shared} {m' : Str → Option Value} {h' : Heap} {tk' : Nat} {t tp : Tok} {n : Nat}
  (F : Fr g L' h' m') (N : News g L' h' [(a.rd, ⟨a.fc, a.fdt, .func a.fd, a.fsl⟩), (a.cc, a.oc), (a.pl, W.listOf #[.int ((pos : Int) + ((Txt.slice (strOf l) (some (pos : Int)) (some ((pos : Int) + 1))).length : Int)) tp] n), (a.c1, a.o1), (a.c2, a.o2)]) :
  Done g L' s (ReadRet a ((pos + (chunk l pos).length : Nat) : Int) n fun t' => .str (strOf (chunk l pos)) t') (.str (Txt.slice (strOf l) (some (pos : Int)) (some ((pos : Int) + 1))) t) { s with heap := h', toks := tk' } := by
  rw [slice_one l pos hp] at N ⊢
  refine Done.intro F N _ (fun _ h => h) ?_
  rw [strOf_length]
  exact .mk tp t
theorem lexN_join {w : World} {a : LexA} (ho : a.Ordered) {h₀ h h' : Heap} {L : Addr} {line : Int} {tl : Tok} {items : Array Value} {n : Nat} {pos pos' : Int} {tp tp' : Tok} {np np' : Nat}
    (N : News h₀ L h (lexN w a line tl items n pos tp np)) (G : GSub h h' ((readN a pos tp np).map (·.1))) (N' : News h₀ L h' (readN a pos' tp' np')) : News h₀ L h' (lexN w a line tl items n pos' tp' np') := by
  obtain ⟨p0, p1, p2, p3, p4, p5, p6, p7, p8⟩ := ho
  have key : ∀ x ∈ (lexN w a line tl items n pos' tp' np').take 5, News h₀ L h' [x] := by
    intro x hx y hy
    obtain rfl := List.mem_singleton.mp hy
    have hm : y ∈ lexN w a line tl items n pos tp np := by
      have : (lexN w a line tl items n pos' tp' np').take 5 = (lexN w a line tl items n pos tp np).take 5 := rfl
      rw [this] at hx; exact List.mem_of_mem_take hx
    have hk := N y hm
    refine ⟨G _ _ hk.1 ?_, hk.2⟩
    simp only [readN, List.map_cons, List.map_nil, List.mem_cons, List.not_mem_nil, or_false]
    have hx' : y.1 = a.pb ∨ y.1 = a.lx ∨ y.1 = a.dx ∨ y.1 = a.sx ∨ y.1 = a.sd := by
      simp only [lexN, List.take_succ_cons, List.take_zero, List.mem_cons, List.not_mem_nil, or_false] at hx
      rcases hx with h | h | h | h | h <;> simp [h]
    have q1 : y.1 ≠ a.rd ∧ y.1 ≠ a.cc ∧ y.1 ≠ a.pl ∧ y.1 ≠ a.c1 ∧ y.1 ≠ a.c2 := by
      refine ⟨?_, ?_, ?_, ?_, ?_⟩ <;> (show @Ne Nat _ _; rcases hx' with h | h | h | h | h <;> (rw [h]; omega))
    rintro (h | h | h | h | h)
    · exact q1.1 h
    · exact q1.2.1 h
    · exact q1.2.2.1 h
    · exact q1.2.2.2.1 h
    · exact q1.2.2.2.2 h
  intro x hx
  have e : lexN w a line tl items n pos' tp' np' = (lexN w a line tl items n pos' tp' np').take 5 ++ readN a pos' tp' np' := rfl
  rw [e] at hx
  rcases List.mem_append.mp hx with h | h
  · exact key x h x (List.mem_singleton.mpr rfl)
  · exact N' x h
noncomputable def offLex (a : LexA) (b : Addr) : Prop := @Ne Nat b a.pb ∧ @Ne Nat b a.lx ∧ @Ne Nat b a.dx ∧ @Ne Nat b a.sx ∧ @Ne Nat b a.sd ∧ @Ne Nat b a.rd ∧ @Ne Nat b a.cc ∧ @Ne Nat b a.pl ∧ @Ne Nat b a.c1 ∧ @Ne Nat b a.c2
theorem offLex.not {w : World} {a : LexA} {b : Addr} {line : Int} {tl : Tok} {items : Array Value} {n : Nat} {pos : Int} {tp : Tok} {np : Nat} (h : offLex a b) : b ∉ (lexN w a line tl items n pos tp np).map (·.1) := fun hx => by
  simp only [lexN, List.map_cons, List.map_nil, List.mem_cons, List.not_mem_nil, or_false] at hx
  obtain ⟨r0, r1, r2, r3, r4, r5, r6, r7, r8, r9⟩ := h
  rcases hx with h | h | h | h | h | h | h | h | h | h
  · exact r0 h
  · exact r1 h
  · exact r2 h
  · exact r3 h
  · exact r4 h
  · exact r5 h
  · exact r6 h
  · exact r7 h
  · exact r8 h
  · exact r9 h
theorem offLex.above {a : LexA} (ho : a.Ordered) {b : Addr} (h : @LT.lt Nat _ a.pb b) : offLex a b := by
  obtain ⟨p0, p1, p2, p3, p4, p5, p6, p7, p8⟩ := ho
  refine ⟨?_, ?_, ?_, ?_, ?_, ?_, ?_, ?_, ?_, ?_⟩ <;> omega
theorem offLex.below {a : LexA} (ho : a.Ordered) {b : Addr} (h : @LT.lt Nat _ b a.c2) : offLex a b := by
  obtain ⟨p0, p1, p2, p3, p4, p5, p6, p7, p8⟩ := ho
  refine ⟨?_, ?_, ?_, ?_, ?_, ?_, ?_, ?_, ?_, ?_⟩ <;> omega
theorem lex_put {w : World} {a : LexA} {front back : List (Addr × Obj)} {h₀ h h' : Heap} {L : Addr} {line line' : Int} {tl tl' : Tok} {items items' : Array Value} {n n' : Nat} {pos pos' : Int} {tp tp' : Tok} {np np' : Nat}
    (N : News h₀ L h (front ++ (lexN w a line tl items n pos tp np ++ back))) (G : GSub h h' ((lexN w a line tl items n pos tp np).map (·.1))) (N' : News h₀ L h' (lexN w a line' tl' items' n' pos' tp' np'))
    (hf : ∀ p ∈ front, offLex a p.1) (hb : ∀ p ∈ back, offLex a p.1) : News h₀ L h' (front ++ (lexN w a line' tl' items' n' pos' tp' np' ++ back)) := fun p hp => by
  rcases List.mem_append.mp hp with h1 | h1
  · exact ⟨G _ _ (N p (List.mem_append_left _ h1)).1 (hf p h1).not, (N p (List.mem_append_left _ h1)).2⟩
  · rcases List.mem_append.mp h1 with h2 | h2
    · exact N' p h2
    · have := N p (List.mem_append_right _ (List.mem_append_right _ h2))
      exact ⟨G _ _ this.1 (hb p h2).not, this.2⟩
theorem off3_lex {w : World} {a : LexA} {front back : List (Addr × Obj)} {line : Int} {tl : Tok} {items : Array Value} {n : Nat} {pos : Int} {tp : Tok} {np : Nat} {I C D : Addr} (h : LCg.Off3 I C D (front ++ (lexN w a line tl items n pos tp np ++ back))) : offLex a I ∧ offLex a C ∧ offLex a D := by
  have k := LCg.Off3.mem h
  have q : ∀ p ∈ lexN w a line tl items n pos tp np, p.1 ≠ I ∧ p.1 ≠ C ∧ p.1 ≠ D := fun p hp => k p (List.mem_append_right _ (List.mem_append_left _ hp))
  simp only [lexN, List.forall_mem_cons] at q
  obtain ⟨q0, q1, q2, q3, q4, q5, q6, q7, q8, q9, _⟩ := q
  refine ⟨⟨?_, ?_, ?_, ?_, ?_, ?_, ?_, ?_, ?_, ?_⟩, ⟨?_, ?_, ?_, ?_, ?_, ?_, ?_, ?_, ?_, ?_⟩, ⟨?_, ?_, ?_, ?_, ?_, ?_, ?_, ?_, ?_, ?_⟩⟩
  · exact Ne.symm q0.1
  · exact Ne.symm q1.1
  · exact Ne.symm q2.1
  · exact Ne.symm q3.1
  · exact Ne.symm q4.1
  · exact Ne.symm q5.1
  · exact Ne.symm q6.1
  · exact Ne.symm q7.1
  · exact Ne.symm q8.1
  · exact Ne.symm q9.1
  · exact Ne.symm q0.2.1
  · exact Ne.symm q1.2.1
  · exact Ne.symm q2.2.1
  · exact Ne.symm q3.2.1
  · exact Ne.symm q4.2.1
  · exact Ne.symm q5.2.1
  · exact Ne.symm q6.2.1
  · exact Ne.symm q7.2.1
  · exact Ne.symm q8.2.1
  · exact Ne.symm q9.2.1
  · exact Ne.symm q0.2.2
  · exact Ne.symm q1.2.2
  · exact Ne.symm q2.2.2
  · exact Ne.symm q3.2.2
  · exact Ne.symm q4.2.2
  · exact Ne.symm q5.2.2
  · exact Ne.symm q6.2.2
  · exact Ne.symm q7.2.2
  · exact Ne.symm q8.2.2
  · exact Ne.symm q9.2.2
end
section
theorem words_lexer_spec : True := by
  w_top off
  k_with_none
  k_with "mine ktr_room" => ((try simp only [depth_under_make, depth_under_kw, depth_in1, depth_deeper, depth_caller]); (try dsimp only [ktrTop]); first | decide | omega)
  k_with "mine ktr_units" => ((try simp only [units_in1, units_deeper, Around.mark_units, units_caller]); (try dsimp only [ktrTop]); first | (rw [cLine_is]; decide) | omega)
  k_with "binaryOp Add str str" => (refine PyProof.Rows.add_str (hsz := ?hszq) ?_; (case hszq => assumption); intro _ _)
  k_with "call builtin:hex" => (refine P.hex_of_int ?_ (hsz := ?hszq); (case hszq => assumption))
  k_with "call builtin:list.append" => (k_here; (with_reducible show wpAny _ _ (call (Value.builtin _) [Value.ref _, _]) _ _ _); k_dflt (refine' append_K ?k1 ?k2 ?k3 ?_ ?z; (case k1 => k_asm); (case k2 => k_asm); (case k3 => k_upd); (case z => assumption); k_whole); intro h9w F9w N9w; (try k_sweep))
  k_with "call builtin:dict.get" => (k_here; k_dflt (refine' flag_get ?k1 ?k2 ?k3 ?k4 ?_; (case k1 => k_asm); (case k2 => exact Fr.keep (by with_reducible assumption)); (case k3 => assumption); (case k4 => assumption)); intro t9w tk9w)
  k_with "exec For Name Call cons nil" => (refine for_raw ?_)
  k_with "exec For Name Call cons cons" => (refine for_raw ?_)
  k_with "exec For Name Name cons nil" => (refine for_raw ?_)
  k_with "exec For Name Subscript cons nil" => (refine for_raw ?_)
  k_with "exec While Name cons nil" => (refine Stop.out ?_)
  k_with "subscriptTail" => (k_here; (with_reducible show wpAny _ _ (subscriptTail _ (Expr.Slice _ _ none _) (Value.bytes _ _) (Value.ref _)) _ _ _); (with_reducible rename Fr _ _ _ _ => F9w); (with_reducible rename News _ _ _ _ => N9w); (refine KBy.slice_N (s := ⟨_, _, _, _, _⟩) F9w N9w (by constructor) (by constructor) (by assumption) (by assumption) ?_); intro _ _ _ _ _)
  k_with "binaryOp Add bytes bytes" => (k_here; (with_reducible show wpAny _ _ (binaryOp Operator.Add (Value.bytes _ _) (Value.bytes _ _)) _ _ _); (refine KBy.add_bytes (by assumption) ?_); intro _ _)
  k_with "mine enter" => (k_dflt (refine' enter_plain ?k1 ?k2 ?k3 ?k4 ?k5 ?kA ?kF ?kK ?k6 ?k7 ?k8 ?k9 ?kB ?hr ?_ ?c2 ?c3 ?c4 ?c5; (case kA => exact rfl); (case kF => exact rfl); (case kK => assumption); (case k1 => k_asm); (case k2 => k_asm); (case k3 => k_asm); (case k4 => k_asm); (case k5 => k_asm); (case k6 => k_is); (case k7 => k_is); (case k8 => ktr_room); (case k9 => exact BindsTo.of_eq rfl); (case c5 => decide); (case kB => exact locs rfl); (case hr => assumption); (case c2 => exact rfl); (case c3 => exact rfl); (case c4 => exact rfl); k_whole))
  k_with "mine cells" => (k_dflt (refine' enter_cells ?k1 ?k2 ?k3 ?k4 ?k5 ?kA ?kF ?kK ?k6 ?k7 ?k8 ?k9 ?kB ?kD ?hr ?_ ?c2 ?c3 ?c4; (case kA => exact rfl); (case kF => exact rfl); (case kK => assumption); (case k1 => k_asm); (case k2 => k_asm); (case k3 => k_asm); (case k4 => k_asm); (case k5 => k_asm); (case k6 => k_is); (case k7 => k_is); (case k8 => ktr_room); (case k9 => exact BindsTo.of_eq rfl); (case kB => exact rfl); (case kD => decide +kernel); (case hr => assumption); (case c2 => exact rfl); (case c3 => exact rfl); (case c4 => exact rfl); k_whole))
  k_with "mine made" => (k_dflt (refine' enter_made ?k1 ?k2 ?k3 ?k4 ?k5 ?kA ?kF ?kK ?k6 ?kd ?k7 ?k8 ?k9 ?kB ?hr ?_ ?c2 ?c3 ?c4 ?c5; (case kA => exact rfl); (case kF => exact rfl); (case kK => assumption); (case k1 => k_asm); (case k2 => k_asm); (case k3 => k_asm); (case k4 => k_asm); (case k5 => k_asm); (case k6 => k_mem); (case kd => exact rfl); (case k7 => exact codeRec_news (by k_asm) (by k_mem) (by assumption) (by assumption)); (case k8 => ktr_room); (case k9 => exact BindsTo.of_eq rfl); (case c5 => decide); (case kB => exact locs rfl); (case hr => assumption); (case c2 => exact rfl); (case c3 => exact rfl); (case c4 => exact rfl); k_whole))
  k_with "subscriptTail" => (k_here; (with_reducible show wpAny _ _ (subscriptTail _ (Expr.Slice _ _ none _) (Value.str _ _) (Value.ref _)) _ _ _); (with_reducible rename Fr _ _ _ _ => F9w); (with_reducible rename News _ _ _ _ => N9w); (first
  | ((with_reducible show wpAny _ _ (subscriptTail _ (Expr.Slice (some _) (some _) none _) _ _) _ _ _); (refine slice_strN_ss (hsz := ?hsz) (s := ⟨_, _, _, _, _⟩) F9w N9w ?_); (case hsz => assumption))
  | ((with_reducible show wpAny _ _ (subscriptTail _ (Expr.Slice none (some _) none _) _ _) _ _ _); (refine slice_strN_ns (hsz := ?hsz) (s := ⟨_, _, _, _, _⟩) F9w N9w ?_); (case hsz => assumption))); intro _ _ _ _ _)
  k_with "call builtin:len" => (k_here; (with_reducible show wpAny _ _ (call (Value.builtin "len") [Value.str _ _]) _ _ _); refine PyProof.Rows.len_str ?hfit ?_; (case hfit => first | exact len_fitS (by assumption) | exact len_fits (by assumption)))
  k_with "lt0" => (first | with_reducible assumption | exact And.left (by with_reducible assumption) | exact And.left (And.right (by with_reducible assumption)) | exact And.left (And.right (And.right (by with_reducible assumption))) | exact And.left (And.right (And.right (And.right (by with_reducible assumption)))) | exact And.left (And.right (And.right (And.right (And.right (by with_reducible assumption))))) | exact And.left (And.right (And.right (And.right (And.right (And.right (by with_reducible assumption)))))) | exact And.left (And.right (And.right (And.right (And.right (And.right (And.right (by with_reducible assumption))))))) | exact And.left (And.right (And.right (And.right (And.right (And.right (And.right (And.right (by with_reducible assumption)))))))) | exact And.left (And.right (And.right (And.right (And.right (And.right (And.right (And.right (And.right (by with_reducible assumption))))))))) | exact And.left (And.right (And.right (And.right (And.right (And.right (And.right (And.right (And.right (And.right (by with_reducible assumption)))))))))) | exact And.left (And.right (And.right (And.right (And.right (And.right (And.right (And.right (And.right (And.right (And.right (by with_reducible assumption))))))))))) | exact And.left (And.right (And.right (And.right (And.right (And.right (And.right (And.right (And.right (And.right (And.right (And.right (by with_reducible assumption)))))))))))) | exact And.right (by with_reducible assumption) | exact And.right (And.right (by with_reducible assumption)) | exact And.right (And.right (And.right (by with_reducible assumption))) | exact And.right (And.right (And.right (And.right (by with_reducible assumption)))) | exact And.right (And.right (And.right (And.right (And.right (by with_reducible assumption))))) | exact And.right (And.right (And.right (And.right (And.right (And.right (by with_reducible assumption)))))) | exact And.right (And.right (And.right (And.right (And.right (And.right (And.right (by with_reducible assumption))))))) | exact And.right (And.right (And.right (And.right (And.right (And.right (And.right (And.right (by with_reducible assumption)))))))) | exact And.right (And.right (And.right (And.right (And.right (And.right (And.right (And.right (And.right (by with_reducible assumption))))))))) | exact And.right (And.right (And.right (And.right (And.right (And.right (And.right (And.right (And.right (And.right (by with_reducible assumption)))))))))) | exact And.right (And.right (And.right (And.right (And.right (And.right (And.right (And.right (And.right (And.right (And.right (by with_reducible assumption))))))))))) | exact nat_lt1 _)
  k_with "ch" => (first | with_reducible assumption | (refine Nat.lt_trans (by with_reducible assumption) ?_; k_extra "ch"))
  k_with "lt" => (first | k_extra "lt0" | exact nat_ltS (by k_extra "lt0") | exact nat_ltS (nat_ltS (by k_extra "lt0")) | exact nat_ltS (nat_ltS (nat_ltS (by k_extra "lt0"))) | exact nat_ltS (nat_ltS (nat_ltS (nat_ltS (by k_extra "lt0")))) | exact nat_ltS (nat_ltS (nat_ltS (nat_ltS (nat_ltS (by k_extra "lt0"))))) | exact nat_ltS (nat_ltS (nat_ltS (nat_ltS (nat_ltS (nat_ltS (by k_extra "lt0")))))) | exact nat_ltS (nat_ltS (nat_ltS (nat_ltS (nat_ltS (nat_ltS (nat_ltS (by k_extra "lt0"))))))) | exact nat_ltS (nat_ltS (nat_ltS (nat_ltS (nat_ltS (nat_ltS (nat_ltS (nat_ltS (by k_extra "lt0")))))))) | k_extra "ch")
  k_with "omega" => (first
    | with_reducible assumption
    | exact Nat.ne_of_lt (by with_reducible assumption) | exact Nat.ne_of_gt (by with_reducible assumption)
    | exact nat_room2 (by with_reducible assumption) (by rfl) | exact nat_room1 (by with_reducible assumption) (by rfl) | exact nat_room3 (by with_reducible assumption) (by rfl) | exact nat_room0 (by with_reducible assumption)
    | exact nat_meas (by with_reducible assumption) | exact nat_meas (Nat.lt_succ_of_lt (by with_reducible assumption))
    | exact c_low (by with_reducible assumption) (by rfl) | exact c_high (by with_reducible assumption) (by rfl) | exact c_lt (by with_reducible assumption) (by rfl)
    | exact Nat.succ_le_of_lt (by with_reducible assumption) | exact Nat.lt_succ_of_le (by with_reducible assumption)
    | exact And.intro (by k_extra "lt") (by k_extra "lt")
    | exact Int.natCast_nonneg _ | exact Int.ofNat_lt.mpr (by with_reducible assumption) | exact Int.ofNat_le.mpr (by with_reducible assumption) | exact int_lt (by with_reducible assumption) (by decide) | exact int_le (by with_reducible assumption) (by decide) | exact Int.lt_of_lt_of_le (by with_reducible assumption) (by decide) | exact Int.le_trans (Int.le_of_lt (by with_reducible assumption)) (by decide)
    | exact Nat.ne_of_lt (by k_extra "lt") | exact Nat.ne_of_gt (by k_extra "lt") | k_extra "lt"
    | exact Nat.le_trans (by with_reducible assumption) (by decide) | exact nat_eqle (by with_reducible assumption) (by decide) | exact Nat.le_trans (Nat.succ_le_succ (by with_reducible assumption)) (by decide) | exact Nat.le_of_lt (by with_reducible assumption) | exact Nat.le_of_eq (by with_reducible assumption)
    | decide)
  exact True.intro
set_option maxRecDepth 100000 in
set_option maxHeartbeats 8000000 in
theorem lexer_spec (w : World) (p : Program) (loose : List Str) (mean : ExcName → Option Value) (mg mb : Str → Option Value) (l : List Nat) (t : Tok) (hl : ∀ c ∈ l, c < 128) (hlen : l.length ≤ 400) :
   Claim w p loose mean mg mb 90 5 [(85, tabObj #[])] [.str (strOf l) t] (fun _ => True) (LexRet w l) := by
  dsimp only [Claim, PR]
  k_fill
  intro dp un gd cn cs a ccd cl outer A₀ base h₀ L m s Q E hB hC hF hX hN hT hk hd hu hp hret
  refine wpAny_call ?_
  walk_at "mine cells"
  intro g L' h1 tk cells FG F1 N1 Y1 B1 X1 T1 G1 l1
  try k_lt l1
  k_cells Y1
  try simp only [List.cons_append, List.nil_append] at N1
  refine id ?_
  (with_reducible show wpAny _ _ _ _ _ _)
  k_fold
  k_steps
  refine lexer_done (by assumption) (by assumption) ?_ ⟨⟨_, _, _, _, _, _, _, rfl⟩, ?_⟩
  · omega
  · dsimp only [Claim, PR, readN]
    clear hB hC hF hX hN hT hk hd hu hp hret FG G1
    intro p loose mean mg mb pos tp t1 n hpos
    have hsz : (strOf l).length ≤ sizeLine := by rw [strOf_length, PySem.sizeLine_eq]; omega
    k_fill
    intro dp un gd cn cs a ccd cl outer A₀ base h₀ L m s Q E hB hC hF hX hN hT hk hd hu hp hret
    refine wpAny_call ?_
    walk_at "mine made"
    intro g L' h1 FG F1 N1 B1 X1 T1 G1
    refine id ?_
    (with_reducible show wpAny _ _ _ _ _ _)
    k_fold
    k_steps
    exact read_done (a := ⟨_, _, _, _, _, _, _, _, _, _, _, _, _, _, _, _, _, _, _, _, _, _, _, _⟩) hpos (by assumption) (by assumption)
end
local macro_rules | `(tactic| k_call_by "mine" $t:term) => `(tactic| (refine' $t _ _ _ _ _ _ _ _ _ _ _ _ _ _ _ _ _ ?k1 ?k2 ?k3 ?k4 ?k5 ?k6 ?k7 ?k8 ?k9 ?kp ?_; k_extra "mine call by"))
section
section
theorem words_char_spec : True := by
  w_top off
  k_with_none
  k_with "mine ktr_room" => ((try simp only [depth_under_make, depth_under_kw, depth_in1, depth_deeper, depth_caller]); (try dsimp only [ktrTop]); first | decide | omega)
  k_with "mine ktr_units" => ((try simp only [units_in1, units_deeper, Around.mark_units, units_caller]); (try dsimp only [ktrTop]); first | (rw [cLine_is]; decide) | omega)
  k_with "mine call by" => ((case k1 => k_asm); (case k2 => kn_code); (case k3 => k_asm); (case k4 => k_asm); (case k5 => (refine' News.subs ?k51 ?k52; (case k51 => k_asm); (case k52 => ((repeat (refine List.forall_mem_cons.mpr (And.intro (by k_mem) ?_))); exact fun _ h => nomatch h)))); (case k6 => k_asm); (case k7 => first | exact rfl | assumption); (case k8 => ktr_room); (case k9 => ktr_units); (case kp => first | exact trivial | assumption))
  k_with "binaryOp Add str str" => (refine PyProof.Rows.add_str (hsz := ?hszq) ?_; (case hszq => assumption); intro _ _)
  k_with "call builtin:hex" => (refine P.hex_of_int ?_ (hsz := ?hszq); (case hszq => assumption))
  k_with "call builtin:list.append" => (k_here; (with_reducible show wpAny _ _ (call (Value.builtin _) [Value.ref _, _]) _ _ _); k_dflt (refine' append_K ?k1 ?k2 ?k3 ?_ ?z; (case k1 => k_asm); (case k2 => k_asm); (case k3 => k_upd); (case z => assumption); k_whole); intro h9w F9w N9w; (try k_sweep))
  k_with "call builtin:dict.get" => (k_here; k_dflt (refine' flag_get ?k1 ?k2 ?k3 ?k4 ?_; (case k1 => k_asm); (case k2 => exact Fr.keep (by with_reducible assumption)); (case k3 => assumption); (case k4 => assumption)); intro t9w tk9w)
  k_with "exec For Name Call cons nil" => (refine for_raw ?_)
  k_with "exec For Name Call cons cons" => (refine for_raw ?_)
  k_with "exec For Name Name cons nil" => (refine for_raw ?_)
  k_with "exec For Name Subscript cons nil" => (refine for_raw ?_)
  k_with "exec While Name cons nil" => (refine Stop.out ?_)
  k_with "subscriptTail" => (k_here; (with_reducible show wpAny _ _ (subscriptTail _ (Expr.Slice _ _ none _) (Value.bytes _ _) (Value.ref _)) _ _ _); (with_reducible rename Fr _ _ _ _ => F9w); (with_reducible rename News _ _ _ _ => N9w); (refine KBy.slice_N (s := ⟨_, _, _, _, _⟩) F9w N9w (by constructor) (by constructor) (by assumption) (by assumption) ?_); intro _ _ _ _ _)
  k_with "binaryOp Add bytes bytes" => (k_here; (with_reducible show wpAny _ _ (binaryOp Operator.Add (Value.bytes _ _) (Value.bytes _ _)) _ _ _); (refine KBy.add_bytes (by assumption) ?_); intro _ _)
  k_with "mine enter" => (k_dflt (refine' enter_plain ?k1 ?k2 ?k3 ?k4 ?k5 ?kA ?kF ?kK ?k6 ?k7 ?k8 ?k9 ?kB ?hr ?_ ?c2 ?c3 ?c4 ?c5; (case kA => exact rfl); (case kF => exact rfl); (case kK => assumption); (case k1 => k_asm); (case k2 => k_asm); (case k3 => k_asm); (case k4 => k_asm); (case k5 => k_asm); (case k6 => k_is); (case k7 => k_is); (case k8 => ktr_room); (case k9 => exact BindsTo.of_eq rfl); (case c5 => decide); (case kB => exact locs rfl); (case hr => assumption); (case c2 => exact rfl); (case c3 => exact rfl); (case c4 => exact rfl); k_whole))
  k_with "mine cells" => (k_dflt (refine' enter_cells ?k1 ?k2 ?k3 ?k4 ?k5 ?kA ?kF ?kK ?k6 ?k7 ?k8 ?k9 ?kB ?kD ?hr ?_ ?c2 ?c3 ?c4; (case kA => exact rfl); (case kF => exact rfl); (case kK => assumption); (case k1 => k_asm); (case k2 => k_asm); (case k3 => k_asm); (case k4 => k_asm); (case k5 => k_asm); (case k6 => k_is); (case k7 => k_is); (case k8 => ktr_room); (case k9 => exact BindsTo.of_eq rfl); (case kB => exact rfl); (case kD => decide +kernel); (case hr => assumption); (case c2 => exact rfl); (case c3 => exact rfl); (case c4 => exact rfl); k_whole))
  k_with "mine made" => (k_dflt (refine' enter_made ?k1 ?k2 ?k3 ?k4 ?k5 ?kA ?kF ?kK ?k6 ?kd ?k7 ?k8 ?k9 ?kB ?hr ?_ ?c2 ?c3 ?c4 ?c5; (case kA => exact rfl); (case kF => exact rfl); (case kK => assumption); (case k1 => k_asm); (case k2 => k_asm); (case k3 => k_asm); (case k4 => k_asm); (case k5 => k_asm); (case k6 => k_mem); (case kd => exact rfl); (case k7 => exact codeRec_news (by k_asm) (by k_mem) (by assumption) (by assumption)); (case k8 => ktr_room); (case k9 => exact BindsTo.of_eq rfl); (case c5 => decide); (case kB => exact locs rfl); (case hr => assumption); (case c2 => exact rfl); (case c3 => exact rfl); (case c4 => exact rfl); k_whole))
  k_with "subscriptTail" => (k_here; (with_reducible show wpAny _ _ (subscriptTail _ (Expr.Slice _ _ none _) (Value.str _ _) (Value.ref _)) _ _ _); (with_reducible rename Fr _ _ _ _ => F9w); (with_reducible rename News _ _ _ _ => N9w); (first
  | ((with_reducible show wpAny _ _ (subscriptTail _ (Expr.Slice (some _) (some _) none _) _ _) _ _ _); (refine slice_strN_ss (hsz := ?hsz) (s := ⟨_, _, _, _, _⟩) F9w N9w ?_); (case hsz => assumption))
  | ((with_reducible show wpAny _ _ (subscriptTail _ (Expr.Slice none (some _) none _) _ _) _ _ _); (refine slice_strN_ns (hsz := ?hsz) (s := ⟨_, _, _, _, _⟩) F9w N9w ?_); (case hsz => assumption))); intro _ _ _ _ _)
  k_with "call builtin:len" => (k_here; (with_reducible show wpAny _ _ (call (Value.builtin "len") [Value.str _ _]) _ _ _); refine PyProof.Rows.len_str ?hfit ?_; (case hfit => first | exact len_fitS (by assumption) | exact len_fits (by assumption)))
  k_with "call ref" => (refine Stop.out ?_)
  k_with "lt0" => (first | with_reducible assumption | exact And.left (by with_reducible assumption) | exact And.left (And.right (by with_reducible assumption)) | exact And.left (And.right (And.right (by with_reducible assumption))) | exact And.left (And.right (And.right (And.right (by with_reducible assumption)))) | exact And.left (And.right (And.right (And.right (And.right (by with_reducible assumption))))) | exact And.left (And.right (And.right (And.right (And.right (And.right (by with_reducible assumption)))))) | exact And.left (And.right (And.right (And.right (And.right (And.right (And.right (by with_reducible assumption))))))) | exact And.left (And.right (And.right (And.right (And.right (And.right (And.right (And.right (by with_reducible assumption)))))))) | exact And.left (And.right (And.right (And.right (And.right (And.right (And.right (And.right (And.right (by with_reducible assumption))))))))) | exact And.left (And.right (And.right (And.right (And.right (And.right (And.right (And.right (And.right (And.right (by with_reducible assumption)))))))))) | exact And.left (And.right (And.right (And.right (And.right (And.right (And.right (And.right (And.right (And.right (And.right (by with_reducible assumption))))))))))) | exact And.left (And.right (And.right (And.right (And.right (And.right (And.right (And.right (And.right (And.right (And.right (And.right (by with_reducible assumption)))))))))))) | exact And.right (by with_reducible assumption) | exact And.right (And.right (by with_reducible assumption)) | exact And.right (And.right (And.right (by with_reducible assumption))) | exact And.right (And.right (And.right (And.right (by with_reducible assumption)))) | exact And.right (And.right (And.right (And.right (And.right (by with_reducible assumption))))) | exact And.right (And.right (And.right (And.right (And.right (And.right (by with_reducible assumption)))))) | exact And.right (And.right (And.right (And.right (And.right (And.right (And.right (by with_reducible assumption))))))) | exact And.right (And.right (And.right (And.right (And.right (And.right (And.right (And.right (by with_reducible assumption)))))))) | exact And.right (And.right (And.right (And.right (And.right (And.right (And.right (And.right (And.right (by with_reducible assumption))))))))) | exact And.right (And.right (And.right (And.right (And.right (And.right (And.right (And.right (And.right (And.right (by with_reducible assumption)))))))))) | exact And.right (And.right (And.right (And.right (And.right (And.right (And.right (And.right (And.right (And.right (And.right (by with_reducible assumption))))))))))) | exact nat_lt1 _)
  k_with "ch" => (first | with_reducible assumption | (refine Nat.lt_trans (by with_reducible assumption) ?_; k_extra "ch"))
  k_with "lt" => (first | k_extra "lt0" | exact nat_ltS (by k_extra "lt0") | exact nat_ltS (nat_ltS (by k_extra "lt0")) | exact nat_ltS (nat_ltS (nat_ltS (by k_extra "lt0"))) | exact nat_ltS (nat_ltS (nat_ltS (nat_ltS (by k_extra "lt0")))) | exact nat_ltS (nat_ltS (nat_ltS (nat_ltS (nat_ltS (by k_extra "lt0"))))) | exact nat_ltS (nat_ltS (nat_ltS (nat_ltS (nat_ltS (nat_ltS (by k_extra "lt0")))))) | exact nat_ltS (nat_ltS (nat_ltS (nat_ltS (nat_ltS (nat_ltS (nat_ltS (by k_extra "lt0"))))))) | exact nat_ltS (nat_ltS (nat_ltS (nat_ltS (nat_ltS (nat_ltS (nat_ltS (nat_ltS (by k_extra "lt0")))))))) | k_extra "ch")
  k_with "omega" => (first
    | with_reducible assumption
    | exact Nat.ne_of_lt (by with_reducible assumption) | exact Nat.ne_of_gt (by with_reducible assumption)
    | exact nat_room2 (by with_reducible assumption) (by rfl) | exact nat_room1 (by with_reducible assumption) (by rfl) | exact nat_room3 (by with_reducible assumption) (by rfl) | exact nat_room0 (by with_reducible assumption)
    | exact nat_meas (by with_reducible assumption) | exact nat_meas (Nat.lt_succ_of_lt (by with_reducible assumption))
    | exact c_low (by with_reducible assumption) (by rfl) | exact c_high (by with_reducible assumption) (by rfl) | exact c_lt (by with_reducible assumption) (by rfl)
    | exact Nat.succ_le_of_lt (by with_reducible assumption) | exact Nat.lt_succ_of_le (by with_reducible assumption)
    | exact And.intro (by k_extra "lt") (by k_extra "lt")
    | exact Int.natCast_nonneg _ | exact Int.ofNat_lt.mpr (by with_reducible assumption) | exact Int.ofNat_le.mpr (by with_reducible assumption) | exact int_lt (by with_reducible assumption) (by decide) | exact int_le (by with_reducible assumption) (by decide) | exact Int.lt_of_lt_of_le (by with_reducible assumption) (by decide) | exact Int.le_trans (Int.le_of_lt (by with_reducible assumption)) (by decide)
    | exact Nat.ne_of_lt (by k_extra "lt") | exact Nat.ne_of_gt (by k_extra "lt") | k_extra "lt"
    | exact Nat.le_trans (by with_reducible assumption) (by decide) | exact nat_eqle (by with_reducible assumption) (by decide) | exact Nat.le_trans (Nat.succ_le_succ (by with_reducible assumption)) (by decide) | exact Nat.le_of_lt (by with_reducible assumption) | exact Nat.le_of_eq (by with_reducible assumption)
    | decide)
  exact True.intro
set_option maxRecDepth 100000 in
set_option maxHeartbeats 8000000 in
theorem char_spec (w : World) (l : List Nat) (a : LexA) (ho : a.Ordered) (hr : ReadCl w l a) (p : Program) (loose : List Str) (mean : ExcName → Option Value) (mg mb : Str → Option Value) (line : Int) (tl : Tok) (items : Array Value) (n : Nat) (pos : Nat) (tp : Tok) (np : Nat) (hpos : pos ≤ l.length) (hlen : l.length ≤ 400) :
   ClaimC w p loose mean mg mb 50 2 (lexN w a line tl items n pos tp np) [.ref a.lx] (fun _ => True) (TokRet w a (line + if chunk l pos = [10] then 1 else 0) items n ((pos + (chunk l pos).length : Nat) : Int) np fun t' => .str (strOf (chunk l pos)) t') := by
  have ho' := ho
  obtain ⟨⟨j0, j1, j2, j3, j4, j5, j6, eS⟩, hr⟩ := hr
  unfold sdObj at eS
  obtain ⟨p0, p1, p2, p3, p4, p5, p6, p7, p8⟩ := ho'
  dsimp only [ClaimC, PR, lexN, readN] at *
  k_fill
  intro dp un gd cn cs ca ccd cl outer A₀ base h₀ L m s Q E hB hC hF hX hN hT hk hd hu hp hret
  walk_at "mine enter"
  intro g L1 h1 FG F1 N1 B1 X1 T1 G1
  rw [eS] at N1
  refine id ?_
  (with_reducible show wpAny _ _ _ _ _ _)
  k_fold
  k_steps
  unfold Stop
  k_call_by "mine" (hr p loose mean mg mb pos tp _ np hpos)
  refine ReadRet.all ?_
  intro tp' t' h2 tk2 F2 N2 G2 O2
  have NB := N1
  rw [← eS] at NB
  have N3 := lexN_join ho (w := w) (line := line) (tl := tl) (items := items) (n := n) NB G2 N2
  clear N2 NB
  dsimp only [lexN] at N3
  rw [eS] at N3
  k_steps
  · have e : chunk l pos = [10] := by
      have h : (strOf (chunk l pos) == Str.ofString "\n") = true := by assumption
      rw [lit_newline, strOf_beq] at h
      exact eq_of_beq h
    (with_reducible rename News _ _ _ _ => N9)
    rw [← eS] at N9
    refine Done.all (by assumption) N9 ?_
    rw [if_pos e]
    exact .mk _ tp' t'
  · have e : ¬ chunk l pos = [10] := fun z => by
      have h : (strOf (chunk l pos) == Str.ofString "\n") = false := by assumption
      rw [lit_newline, strOf_beq, z] at h
      cases h
    (with_reducible rename News _ _ _ _ => N9)
    rw [← eS] at N9
    refine Done.all (by assumption) N9 ?_
    rw [if_neg e, Int.add_zero]
    exact .mk _ tp' t'
end
end
section
theorem words_CharNext : True := by
  k_with_none
  k_with "lt0" => (first | with_reducible assumption | exact And.left (by with_reducible assumption) | exact And.left (And.right (by with_reducible assumption)) | exact And.left (And.right (And.right (by with_reducible assumption))) | exact And.left (And.right (And.right (And.right (by with_reducible assumption)))) | exact And.left (And.right (And.right (And.right (And.right (by with_reducible assumption))))) | exact And.left (And.right (And.right (And.right (And.right (And.right (by with_reducible assumption)))))) | exact And.left (And.right (And.right (And.right (And.right (And.right (And.right (by with_reducible assumption))))))) | exact And.left (And.right (And.right (And.right (And.right (And.right (And.right (And.right (by with_reducible assumption)))))))) | exact And.left (And.right (And.right (And.right (And.right (And.right (And.right (And.right (And.right (by with_reducible assumption))))))))) | exact And.left (And.right (And.right (And.right (And.right (And.right (And.right (And.right (And.right (And.right (by with_reducible assumption)))))))))) | exact And.left (And.right (And.right (And.right (And.right (And.right (And.right (And.right (And.right (And.right (And.right (by with_reducible assumption))))))))))) | exact And.left (And.right (And.right (And.right (And.right (And.right (And.right (And.right (And.right (And.right (And.right (And.right (by with_reducible assumption)))))))))))) | exact And.right (by with_reducible assumption) | exact And.right (And.right (by with_reducible assumption)) | exact And.right (And.right (And.right (by with_reducible assumption))) | exact And.right (And.right (And.right (And.right (by with_reducible assumption)))) | exact And.right (And.right (And.right (And.right (And.right (by with_reducible assumption))))) | exact And.right (And.right (And.right (And.right (And.right (And.right (by with_reducible assumption)))))) | exact And.right (And.right (And.right (And.right (And.right (And.right (And.right (by with_reducible assumption))))))) | exact And.right (And.right (And.right (And.right (And.right (And.right (And.right (And.right (by with_reducible assumption)))))))) | exact And.right (And.right (And.right (And.right (And.right (And.right (And.right (And.right (And.right (by with_reducible assumption))))))))) | exact And.right (And.right (And.right (And.right (And.right (And.right (And.right (And.right (And.right (And.right (by with_reducible assumption)))))))))) | exact And.right (And.right (And.right (And.right (And.right (And.right (And.right (And.right (And.right (And.right (And.right (by with_reducible assumption))))))))))) | exact nat_lt1 _)
  k_with "ch" => (first | with_reducible assumption | (refine Nat.lt_trans (by with_reducible assumption) ?_; k_extra "ch"))
  k_with "lt" => (first | k_extra "lt0" | exact nat_ltS (by k_extra "lt0") | exact nat_ltS (nat_ltS (by k_extra "lt0")) | exact nat_ltS (nat_ltS (nat_ltS (by k_extra "lt0"))) | exact nat_ltS (nat_ltS (nat_ltS (nat_ltS (by k_extra "lt0")))) | exact nat_ltS (nat_ltS (nat_ltS (nat_ltS (nat_ltS (by k_extra "lt0"))))) | exact nat_ltS (nat_ltS (nat_ltS (nat_ltS (nat_ltS (nat_ltS (by k_extra "lt0")))))) | exact nat_ltS (nat_ltS (nat_ltS (nat_ltS (nat_ltS (nat_ltS (nat_ltS (by k_extra "lt0"))))))) | exact nat_ltS (nat_ltS (nat_ltS (nat_ltS (nat_ltS (nat_ltS (nat_ltS (nat_ltS (by k_extra "lt0")))))))) | k_extra "ch")
  k_with "omega" => (first
    | with_reducible assumption
    | exact Nat.ne_of_lt (by with_reducible assumption) | exact Nat.ne_of_gt (by with_reducible assumption)
    | exact nat_room2 (by with_reducible assumption) (by rfl) | exact nat_room1 (by with_reducible assumption) (by rfl) | exact nat_room3 (by with_reducible assumption) (by rfl) | exact nat_room0 (by with_reducible assumption)
    | exact nat_meas (by with_reducible assumption) | exact nat_meas (Nat.lt_succ_of_lt (by with_reducible assumption))
    | exact c_low (by with_reducible assumption) (by rfl) | exact c_high (by with_reducible assumption) (by rfl) | exact c_lt (by with_reducible assumption) (by rfl)
    | exact Nat.succ_le_of_lt (by with_reducible assumption) | exact Nat.lt_succ_of_le (by with_reducible assumption)
    | exact And.intro (by k_extra "lt") (by k_extra "lt")
    | exact Int.natCast_nonneg _ | exact Int.ofNat_lt.mpr (by with_reducible assumption) | exact Int.ofNat_le.mpr (by with_reducible assumption) | exact int_lt (by with_reducible assumption) (by decide) | exact int_le (by with_reducible assumption) (by decide) | exact Int.lt_of_lt_of_le (by with_reducible assumption) (by decide) | exact Int.le_trans (Int.le_of_lt (by with_reducible assumption)) (by decide)
    | exact Nat.ne_of_lt (by k_extra "lt") | exact Nat.ne_of_gt (by k_extra "lt") | k_extra "lt"
    | exact Nat.le_trans (by with_reducible assumption) (by decide) | exact nat_eqle (by with_reducible assumption) (by decide) | exact Nat.le_trans (Nat.succ_le_succ (by with_reducible assumption)) (by decide) | exact Nat.le_of_lt (by with_reducible assumption) | exact Nat.le_of_eq (by with_reducible assumption)
    | decide)
  exact True.intro
noncomputable def tokN (w : World) (a : LexA) (it q : Addr) (ts : Tok) (line : Int) (tl : Tok) (n : Nat) (pos : Int) (tp : Tok) (np : Nat) : List (Addr × Obj) :=
  (it, citObj q (Str.ofString "") ts) :: (q, methodObj (.ref 50) (.ref a.lx)) :: lexN w a line tl #[] n pos tp np
theorem fn50 (w : World) : ∃ oc od fd sl, (hd.heap_1 w.params).lookup 50 = some ⟨oc, od, .func fd, sl⟩ := ⟨_, _, _, _, rfl⟩
theorem chunk_some {l : List Nat} {pos c : Nat} (h : l[pos]? = some c) : chunk l pos = [c] := by
  have hp : pos < l.length := (List.getElem?_eq_some_iff.mp h).1
  unfold chunk
  rw [List.drop_eq_getElem_cons hp]
  have : l[pos] = c := (List.getElem?_eq_some_iff.mp h).2
  rw [this]; rfl
theorem chunk_none {l : List Nat} {pos : Nat} (h : l[pos]? = none) : chunk l pos = [] := by
  unfold chunk
  rw [List.drop_eq_nil_of_le (List.getElem?_eq_none_iff.mp h)]; rfl
section
variable {w : World} {l : List Nat} {a : LexA} {p : Program} {loose : List Str} {mean : ExcName → Option Value} {mg mb : Str → Option Value} {dp un : Nat} {gd : Option (List Code)} {cn : Str} {cs : Scope} {ca : Addr} {ccd : Value} {cl : List (Str × Addr)} {outer : List Env} {A₀ : Around} {base h₀ : Heap} {L : Addr} {m : Str → Option Value} {s : Shared}
theorem char_next {it q : Addr} {ts : Tok} {line : Int} {tl : Tok} {n pos : Nat} {tp : Tok} {np : Nat} {Q : Option Value → Shared → Prop} (ho : a.Ordered) (hr : ReadCl w l a) (hpos : pos ≤ l.length) (hlen : l.length ≤ 400) (hq : @LT.lt Nat _ a.pb q ∧ @LT.lt Nat _ q it)
    (B : Below A₀ base outer h₀) (C : CodeHd base 89 85) (F : Fr h₀ L s.heap m) (X : (hd.heap_1 w.params).In h₀) (T : Top p loose mean mg mb h₀) (hk : cs.kind = .function) (hdp : dp + 2 < recursionLimit) (hun : un + 1 + 8 * 2 < cLine)
    (N : News h₀ L s.heap (tokN w a it q ts line tl n (pos : Int) tp np))
    (item : ∀ c t' h' tk' tl' tp', l[pos]? = some c → Fr h₀ L h' m → News h₀ L h' (tokN w a it q ts (line + if c = 10 then 1 else 0) tl' n ((pos + 1 : Nat) : Int) tp' np) → Q (some (.str (strOf [c]) t')) { s with heap := h', toks := tk' })
    (done : ∀ h' tk' tl' tp', l[pos]? = none → Fr h₀ L h' m → News h₀ L h' (lexN w a line tl' #[] n (pos : Int) tp' np) → Q none { s with heap := h', toks := tk' }) :
    wpAny (model PR w) (ktrTop dp un gd cn cs L ca ccd cl outer) (pyNext (.ref it)) Q (fun _ _ => False) s := by
  obtain ⟨oc, od, fd, sl, e50⟩ := fn50 w
  obtain ⟨p0, p1, p2, p3, p4, p5, p6, p7, p8⟩ := id ho
  have hi : (it, citObj q (Str.ofString "") ts) ∈ tokN w a it q ts line tl n (pos : Int) tp np := List.mem_cons_self
  have hm : (q, methodObj (.ref 50) (.ref a.lx)) ∈ tokN w a it q ts line tl n (pos : Int) tp np := List.mem_cons_of_mem _ List.mem_cons_self
  have off : ∀ b : Addr, @LT.lt Nat _ a.pb b → b ∉ (lexN w a line tl #[] n (pos : Int) tp np).map (·.1) := fun b hb hx => by
    simp only [lexN, List.map_cons, List.map_nil, List.mem_cons, List.not_mem_nil, or_false] at hx
    have q1 : @Ne Nat b a.pb ∧ @Ne Nat b a.lx ∧ @Ne Nat b a.dx ∧ @Ne Nat b a.sx ∧ @Ne Nat b a.sd ∧ @Ne Nat b a.rd ∧ @Ne Nat b a.cc ∧ @Ne Nat b a.pl ∧ @Ne Nat b a.c1 ∧ @Ne Nat b a.c2 := by
      refine ⟨?_, ?_, ?_, ?_, ?_, ?_, ?_, ?_, ?_, ?_⟩ <;> omega
    obtain ⟨r0, r1, r2, r3, r4, r5, r6, r7, r8, r9⟩ := q1
    rcases hx with h | h | h | h | h | h | h | h | h | h
    · exact r0 h
    · exact r1 h
    · exact r2 h
    · exact r3 h
    · exact r4 h
    · exact r5 h
    · exact r6 h
    · exact r7 h
    · exact r8 h
    · exact r9 h
  refine next_call rfl N hi hm ⟨oc, od, fd, sl, (X.keeps F.keep) _ _ e50⟩ ?_
  refine char_spec w l a ho hr p loose mean mg mb line tl #[] n pos tp np hpos hlen dp (un + 1) gd cn cs ca ccd cl outer A₀ base h₀ L m s _ _ B C F X (fun x hx => N x (List.mem_cons_of_mem _ (List.mem_cons_of_mem _ hx))) T hk hdp (by omega) trivial ?_
  refine TokRet.all ?_
  intro tl' tp' t' h' tk' F' N' G' O'
  have k1 := G' _ _ (N _ hi).1 (off it (by omega))
  have k2 := G' _ _ (N _ hm).1 (off q hq.1)
  refine ⟨strOf (chunk l pos), t', rfl, k1, k2, ⟨oc, od, fd, sl, (X.keeps F'.keep) _ _ e50⟩, fun ne => ?_, fun e h2 x2 => ?_⟩
  · cases hc : l[pos]? with
    | none =>
      rw [chunk_none hc] at ne
      exact absurd lit_empty.symm ne
    | some c =>
      have e := chunk_some hc
      rw [e] at N' ⊢
      refine item c t' h' tk' tl' tp' hc F' ?_
      intro x hx
      rcases List.mem_cons.mp hx with rfl | hx
      · exact ⟨k1, (N _ hi).2⟩
      · rcases List.mem_cons.mp hx with rfl | hx
        · exact ⟨k2, (N _ hm).2⟩
        · have := N' x
          simp only [List.cons.injEq, and_true, List.length_singleton] at this
          exact this hx
  · cases hc : l[pos]? with
    | some c =>
      have e2 := chunk_some hc
      rw [e2, lit_empty] at e
      cases strOf_inj e
    | none =>
      have e2 := chunk_none hc
      rw [e2] at N'
      refine done h2 tk' tl' tp' hc (fr_ext F' x2 (Ne.symm (N _ hi).2.1) (N _ hi).2.2) (fun x hx => ?_)
      have nx : x.1 ≠ it := fun z => off it (by omega) (by
        rw [← z]
        have : x.1 ∈ (lexN w a line tl' #[] n (pos : Int) tp' np).map (·.1) := List.mem_map_of_mem hx
        exact this)
      have hx' := N' x
      simp only [reduceCtorEq, if_false, Int.add_zero, List.length_nil, Nat.add_zero] at hx'
      exact ⟨x2 _ _ nx (hx' hx).1, (hx' hx).2⟩
end
end
section
theorem words_TokHelp : True := by
  k_with_none
  k_with "mine ktr_room" => ((try simp only [depth_under_make, depth_under_kw, depth_in1, depth_deeper, depth_caller]); (try dsimp only [ktrTop]); first | decide | omega)
  k_with "mine ktr_units" => ((try simp only [units_in1, units_deeper, Around.mark_units, units_caller]); (try dsimp only [ktrTop]); first | (rw [cLine_is]; decide) | omega)
  k_with "mine call by" => ((case k1 => k_asm); (case k2 => kn_code); (case k3 => k_asm); (case k4 => k_asm); (case k5 => (refine' News.subs ?k51 ?k52; (case k51 => k_asm); (case k52 => ((repeat (refine List.forall_mem_cons.mpr (And.intro (by k_mem) ?_))); exact fun _ h => nomatch h)))); (case k6 => k_asm); (case k7 => first | exact rfl | assumption); (case k8 => ktr_room); (case k9 => ktr_units); (case kp => first | exact trivial | assumption))
  k_with "lt0" => (first | with_reducible assumption | exact And.left (by with_reducible assumption) | exact And.left (And.right (by with_reducible assumption)) | exact And.left (And.right (And.right (by with_reducible assumption))) | exact And.left (And.right (And.right (And.right (by with_reducible assumption)))) | exact And.left (And.right (And.right (And.right (And.right (by with_reducible assumption))))) | exact And.left (And.right (And.right (And.right (And.right (And.right (by with_reducible assumption)))))) | exact And.left (And.right (And.right (And.right (And.right (And.right (And.right (by with_reducible assumption))))))) | exact And.left (And.right (And.right (And.right (And.right (And.right (And.right (And.right (by with_reducible assumption)))))))) | exact And.left (And.right (And.right (And.right (And.right (And.right (And.right (And.right (And.right (by with_reducible assumption))))))))) | exact And.left (And.right (And.right (And.right (And.right (And.right (And.right (And.right (And.right (And.right (by with_reducible assumption)))))))))) | exact And.left (And.right (And.right (And.right (And.right (And.right (And.right (And.right (And.right (And.right (And.right (by with_reducible assumption))))))))))) | exact And.left (And.right (And.right (And.right (And.right (And.right (And.right (And.right (And.right (And.right (And.right (And.right (by with_reducible assumption)))))))))))) | exact And.right (by with_reducible assumption) | exact And.right (And.right (by with_reducible assumption)) | exact And.right (And.right (And.right (by with_reducible assumption))) | exact And.right (And.right (And.right (And.right (by with_reducible assumption)))) | exact And.right (And.right (And.right (And.right (And.right (by with_reducible assumption))))) | exact And.right (And.right (And.right (And.right (And.right (And.right (by with_reducible assumption)))))) | exact And.right (And.right (And.right (And.right (And.right (And.right (And.right (by with_reducible assumption))))))) | exact And.right (And.right (And.right (And.right (And.right (And.right (And.right (And.right (by with_reducible assumption)))))))) | exact And.right (And.right (And.right (And.right (And.right (And.right (And.right (And.right (And.right (by with_reducible assumption))))))))) | exact And.right (And.right (And.right (And.right (And.right (And.right (And.right (And.right (And.right (And.right (by with_reducible assumption)))))))))) | exact And.right (And.right (And.right (And.right (And.right (And.right (And.right (And.right (And.right (And.right (And.right (by with_reducible assumption))))))))))) | exact nat_lt1 _)
  k_with "ch" => (first | with_reducible assumption | (refine Nat.lt_trans (by with_reducible assumption) ?_; k_extra "ch"))
  k_with "lt" => (first | k_extra "lt0" | exact nat_ltS (by k_extra "lt0") | exact nat_ltS (nat_ltS (by k_extra "lt0")) | exact nat_ltS (nat_ltS (nat_ltS (by k_extra "lt0"))) | exact nat_ltS (nat_ltS (nat_ltS (nat_ltS (by k_extra "lt0")))) | exact nat_ltS (nat_ltS (nat_ltS (nat_ltS (nat_ltS (by k_extra "lt0"))))) | exact nat_ltS (nat_ltS (nat_ltS (nat_ltS (nat_ltS (nat_ltS (by k_extra "lt0")))))) | exact nat_ltS (nat_ltS (nat_ltS (nat_ltS (nat_ltS (nat_ltS (nat_ltS (by k_extra "lt0"))))))) | exact nat_ltS (nat_ltS (nat_ltS (nat_ltS (nat_ltS (nat_ltS (nat_ltS (nat_ltS (by k_extra "lt0")))))))) | k_extra "ch")
  k_with "omega" => (first
    | with_reducible assumption
    | exact Nat.ne_of_lt (by with_reducible assumption) | exact Nat.ne_of_gt (by with_reducible assumption)
    | exact nat_room2 (by with_reducible assumption) (by rfl) | exact nat_room1 (by with_reducible assumption) (by rfl) | exact nat_room3 (by with_reducible assumption) (by rfl) | exact nat_room0 (by with_reducible assumption)
    | exact nat_meas (by with_reducible assumption) | exact nat_meas (Nat.lt_succ_of_lt (by with_reducible assumption))
    | exact c_low (by with_reducible assumption) (by rfl) | exact c_high (by with_reducible assumption) (by rfl) | exact c_lt (by with_reducible assumption) (by rfl)
    | exact Nat.succ_le_of_lt (by with_reducible assumption) | exact Nat.lt_succ_of_le (by with_reducible assumption)
    | exact And.intro (by k_extra "lt") (by k_extra "lt")
    | exact Int.natCast_nonneg _ | exact Int.ofNat_lt.mpr (by with_reducible assumption) | exact Int.ofNat_le.mpr (by with_reducible assumption) | exact int_lt (by with_reducible assumption) (by decide) | exact int_le (by with_reducible assumption) (by decide) | exact Int.lt_of_lt_of_le (by with_reducible assumption) (by decide) | exact Int.le_trans (Int.le_of_lt (by with_reducible assumption)) (by decide)
    | exact Nat.ne_of_lt (by k_extra "lt") | exact Nat.ne_of_gt (by k_extra "lt") | k_extra "lt"
    | exact Nat.le_trans (by with_reducible assumption) (by decide) | exact nat_eqle (by with_reducible assumption) (by decide) | exact Nat.le_trans (Nat.succ_le_succ (by with_reducible assumption)) (by decide) | exact Nat.le_of_lt (by with_reducible assumption) | exact Nat.le_of_eq (by with_reducible assumption)
    | decide)
  exact True.intro
theorem room1 {x : List Nat} {c : Nat} (h : x.length ≤ 400) : (strOf x).length + (strOf [c]).length ≤ sizeLine := by
  rw [strOf_length, strOf_length, PySem.sizeLine_eq]; show x.length + 1 ≤ _; omega
theorem room0 {c : Nat} : (Str.ofString "").length + (strOf [c]).length ≤ sizeLine := by rw [lit_empty]; exact room1 (by simp)
theorem ws_all : ∀ c : Fin 128, (Builtin.Str.occurrences (Str.ofString "\n\t\r ") (strOf [c.1]) 0 (Str.ofString "\n\t\r ").length 1).isEmpty = !([10, 9, 13, 32].contains c.1) := by decide +kernel
theorem ws_of {c : Nat} (h : c < 128) : (Builtin.Str.occurrences (Str.ofString "\n\t\r ") (strOf [c]) 0 (Str.ofString "\n\t\r ").length 1).isEmpty = !([10, 9, 13, 32].contains c) := ws_all ⟨c, h⟩
theorem not_ws {c : Nat} (h : c < 128) (hc : c ≠ 10 ∧ c ≠ 9 ∧ c ≠ 13 ∧ c ≠ 32) : (Builtin.Str.occurrences (Str.ofString "\n\t\r ") (strOf [c]) 0 (Str.ofString "\n\t\r ").length 1).isEmpty = true := by
  rw [ws_of h]; simp [hc.1, hc.2.1, hc.2.2.1, hc.2.2.2]
theorem is_ws {c : Nat} (h : c = 32 ∨ c = 9 ∨ c = 13 ∨ c = 10) : (Builtin.Str.occurrences (Str.ofString "\n\t\r ") (strOf [c]) 0 (Str.ofString "\n\t\r ").length 1).isEmpty = false := by
  rw [ws_of (by omega)]; rcases h with h | h | h | h <;> subst h <;> rfl
theorem quote_is (c : Nat) : (strOf [c] == Str.ofString "\"") = decide (c = 34) := by rw [lit_quote, strOf_beq]; by_cases h : c = 34 <;> simp [h]
theorem back_is (c : Nat) : (strOf [c] == Str.ofString "\\") = decide (c = 92) := by rw [lit_back, strOf_beq]; by_cases h : c = 92 <;> simp [h]
theorem name_of_cit {h₀ h : Heap} {L it q : Addr} {x : Str} {ts : Tok} {rest : List (Addr × Obj)} {P : Prop} (_N : News h₀ L h ((it, citObj q x ts) :: rest)) (k : ∀ it' q', it' = it → q' = q → P) : P := k _ _ rfl rfl
theorem tok_done {g : Heap} {L' : Addr} {s : Shared} {Ret : Value → List (Addr × Obj) → Prop} {v : Value} {m' : Str → Option Value} {x y : Addr × Obj} {all : List (Addr × Obj)} {h' : Heap} {tk' : Nat} (F : Fr g L' h' m') (N : News g L' h' (x :: y :: all)) (r : Ret v all) :
    Done g L' s Ret v { s with heap := h', toks := tk' } := Done.intro F N all (fun _ h => List.mem_cons_of_mem _ (List.mem_cons_of_mem _ h)) r
theorem tok_join {w : World} {a : LexA} (ho : a.Ordered) {it q : Addr} {ts : Tok} {h₀ h h' : Heap} {L : Addr} {line line' : Int} {tl tl' : Tok} {n n' : Nat} {pos pos' : Int} {tp tp' : Tok} {np np' : Nat} (hq : @LT.lt Nat _ a.pb q ∧ @LT.lt Nat _ q it)
    (N : News h₀ L h (tokN w a it q ts line tl n pos tp np)) (G : GSub h h' ((lexN w a line tl #[] n pos tp np).map (·.1))) (N' : News h₀ L h' (lexN w a line' tl' #[] n' pos' tp' np')) : News h₀ L h' (tokN w a it q ts line' tl' n' pos' tp' np') := by
  obtain ⟨p0, p1, p2, p3, p4, p5, p6, p7, p8⟩ := id ho
  have off : ∀ b : Addr, @LT.lt Nat _ a.pb b → b ∉ (lexN w a line tl #[] n pos tp np).map (·.1) := fun b hb hx => by
    simp only [lexN, List.map_cons, List.map_nil, List.mem_cons, List.not_mem_nil, or_false] at hx
    have q1 : @Ne Nat b a.pb ∧ @Ne Nat b a.lx ∧ @Ne Nat b a.dx ∧ @Ne Nat b a.sx ∧ @Ne Nat b a.sd ∧ @Ne Nat b a.rd ∧ @Ne Nat b a.cc ∧ @Ne Nat b a.pl ∧ @Ne Nat b a.c1 ∧ @Ne Nat b a.c2 := by
      refine ⟨?_, ?_, ?_, ?_, ?_, ?_, ?_, ?_, ?_, ?_⟩ <;> omega
    obtain ⟨r0, r1, r2, r3, r4, r5, r6, r7, r8, r9⟩ := q1
    rcases hx with h | h | h | h | h | h | h | h | h | h
    · exact r0 h
    · exact r1 h
    · exact r2 h
    · exact r3 h
    · exact r4 h
    · exact r5 h
    · exact r6 h
    · exact r7 h
    · exact r8 h
    · exact r9 h
  intro x hx
  rcases List.mem_cons.mp hx with rfl | hx
  · have := N _ List.mem_cons_self
    exact ⟨G _ _ this.1 (off it (by omega)), this.2⟩
  · rcases List.mem_cons.mp hx with rfl | hx
    · have := N _ (List.mem_cons_of_mem _ List.mem_cons_self)
      exact ⟨G _ _ this.1 (off q hq.1), this.2⟩
    · exact N' x hx
noncomputable def escL (q : List Nat) : List Nat := q.flatMap fun c => [92, c]
theorem escL_even : ∀ (q : List Nat) (i : Nat) (z : List Nat), i < q.length → (escL q ++ z)[2 * i]? = some 92
  | c :: q, 0, z, _ => rfl
  | c :: q, i + 1, z, h => by
    have := escL_even q i z (by simpa using h)
    show (92 :: c :: (escL q ++ z))[2 * (i + 1)]? = _
    rw [show 2 * (i + 1) = 2 * i + 1 + 1 by omega, List.getElem?_cons_succ, List.getElem?_cons_succ, this]
theorem escL_odd : ∀ (q : List Nat) (i : Nat) (z : List Nat), i < q.length → (escL q ++ z)[2 * i + 1]? = q[i]?
  | c :: q, 0, z, _ => rfl
  | c :: q, i + 1, z, h => by
    have := escL_odd q i z (by simpa using h)
    show (92 :: c :: (escL q ++ z))[2 * (i + 1) + 1]? = _
    rw [show 2 * (i + 1) + 1 = 2 * i + 1 + 1 + 1 by omega, List.getElem?_cons_succ, List.getElem?_cons_succ, this, List.getElem?_cons_succ]
theorem escL_length (q : List Nat) : (escL q).length = 2 * q.length := by
  induction q with
  | nil => rfl
  | cons c q ih => show (escL q).length + 1 + 1 = _; rw [ih, List.length_cons]; omega
theorem escL_end (q : List Nat) (z : List Nat) : (escL q ++ z)[2 * q.length]? = z[0]? := by
  rw [List.getElem?_append_right (by rw [escL_length]; exact Nat.le_refl _), escL_length, Nat.sub_self]
theorem no_of {b : Bool} (h : b = true) (k : b = false) : False := by rw [h] at k; cases k
end
section
open PySem PySem.W PyProof.Rows PySem.Calls
set_option maxRecDepth 100000
theorem words_Pairs : True := by
  k_with_none
  k_with "lt0" => (first | with_reducible assumption | exact And.left (by with_reducible assumption) | exact And.left (And.right (by with_reducible assumption)) | exact And.left (And.right (And.right (by with_reducible assumption))) | exact And.left (And.right (And.right (And.right (by with_reducible assumption)))) | exact And.left (And.right (And.right (And.right (And.right (by with_reducible assumption))))) | exact And.left (And.right (And.right (And.right (And.right (And.right (by with_reducible assumption)))))) | exact And.left (And.right (And.right (And.right (And.right (And.right (And.right (by with_reducible assumption))))))) | exact And.left (And.right (And.right (And.right (And.right (And.right (And.right (And.right (by with_reducible assumption)))))))) | exact And.left (And.right (And.right (And.right (And.right (And.right (And.right (And.right (And.right (by with_reducible assumption))))))))) | exact And.left (And.right (And.right (And.right (And.right (And.right (And.right (And.right (And.right (And.right (by with_reducible assumption)))))))))) | exact And.left (And.right (And.right (And.right (And.right (And.right (And.right (And.right (And.right (And.right (And.right (by with_reducible assumption))))))))))) | exact And.left (And.right (And.right (And.right (And.right (And.right (And.right (And.right (And.right (And.right (And.right (And.right (by with_reducible assumption)))))))))))) | exact And.right (by with_reducible assumption) | exact And.right (And.right (by with_reducible assumption)) | exact And.right (And.right (And.right (by with_reducible assumption))) | exact And.right (And.right (And.right (And.right (by with_reducible assumption)))) | exact And.right (And.right (And.right (And.right (And.right (by with_reducible assumption))))) | exact And.right (And.right (And.right (And.right (And.right (And.right (by with_reducible assumption)))))) | exact And.right (And.right (And.right (And.right (And.right (And.right (And.right (by with_reducible assumption))))))) | exact And.right (And.right (And.right (And.right (And.right (And.right (And.right (And.right (by with_reducible assumption)))))))) | exact And.right (And.right (And.right (And.right (And.right (And.right (And.right (And.right (And.right (by with_reducible assumption))))))))) | exact And.right (And.right (And.right (And.right (And.right (And.right (And.right (And.right (And.right (And.right (by with_reducible assumption)))))))))) | exact And.right (And.right (And.right (And.right (And.right (And.right (And.right (And.right (And.right (And.right (And.right (by with_reducible assumption))))))))))) | exact nat_lt1 _)
  k_with "ch" => (first | with_reducible assumption | (refine Nat.lt_trans (by with_reducible assumption) ?_; k_extra "ch"))
  k_with "lt" => (first | k_extra "lt0" | exact nat_ltS (by k_extra "lt0") | exact nat_ltS (nat_ltS (by k_extra "lt0")) | exact nat_ltS (nat_ltS (nat_ltS (by k_extra "lt0"))) | exact nat_ltS (nat_ltS (nat_ltS (nat_ltS (by k_extra "lt0")))) | exact nat_ltS (nat_ltS (nat_ltS (nat_ltS (nat_ltS (by k_extra "lt0"))))) | exact nat_ltS (nat_ltS (nat_ltS (nat_ltS (nat_ltS (nat_ltS (by k_extra "lt0")))))) | exact nat_ltS (nat_ltS (nat_ltS (nat_ltS (nat_ltS (nat_ltS (nat_ltS (by k_extra "lt0"))))))) | exact nat_ltS (nat_ltS (nat_ltS (nat_ltS (nat_ltS (nat_ltS (nat_ltS (nat_ltS (by k_extra "lt0")))))))) | k_extra "ch")
  k_with "omega" => (first
    | with_reducible assumption
    | exact Nat.ne_of_lt (by with_reducible assumption) | exact Nat.ne_of_gt (by with_reducible assumption)
    | exact nat_room2 (by with_reducible assumption) (by rfl) | exact nat_room1 (by with_reducible assumption) (by rfl) | exact nat_room3 (by with_reducible assumption) (by rfl) | exact nat_room0 (by with_reducible assumption)
    | exact nat_meas (by with_reducible assumption) | exact nat_meas (Nat.lt_succ_of_lt (by with_reducible assumption))
    | exact c_low (by with_reducible assumption) (by rfl) | exact c_high (by with_reducible assumption) (by rfl) | exact c_lt (by with_reducible assumption) (by rfl)
    | exact Nat.succ_le_of_lt (by with_reducible assumption) | exact Nat.lt_succ_of_le (by with_reducible assumption)
    | exact And.intro (by k_extra "lt") (by k_extra "lt")
    | exact Int.natCast_nonneg _ | exact Int.ofNat_lt.mpr (by with_reducible assumption) | exact Int.ofNat_le.mpr (by with_reducible assumption) | exact int_lt (by with_reducible assumption) (by decide) | exact int_le (by with_reducible assumption) (by decide) | exact Int.lt_of_lt_of_le (by with_reducible assumption) (by decide) | exact Int.le_trans (Int.le_of_lt (by with_reducible assumption)) (by decide)
    | exact Nat.ne_of_lt (by k_extra "lt") | exact Nat.ne_of_gt (by k_extra "lt") | k_extra "lt"
    | exact Nat.le_trans (by with_reducible assumption) (by decide) | exact nat_eqle (by with_reducible assumption) (by decide) | exact Nat.le_trans (Nat.succ_le_succ (by with_reducible assumption)) (by decide) | exact Nat.le_of_lt (by with_reducible assumption) | exact Nat.le_of_eq (by with_reducible assumption)
    | decide)
  exact True.intro
section
variable {prog : Program} {w : World} {A : Around} {env : Env} {s : Shared} {h₀ : Heap} {L : Addr} {m : Str → Option Value} {news : List (Addr × Obj)} {E : Value → Shared → Prop}
noncomputable def PairTurn (prog : Program) (w : World) (A : Around) (env : Env) (target : Expr) (body orelse : List Stmt) (Q : Flow → Shared → Prop) (rest : Shared → Prop) (it : Value) (r : Option Value) (s₁ : Shared) : Prop := match r with
  | none => wpAny (model prog w) A (execs orelse env) Q (fun _ _ => False) s₁
  | some y => wpAny (model prog w) A (letOwnedTupleGo target it y) (fun _ s₂ => ForTurn prog w A env target body orelse Q rest (some y) s₂) (fun _ _ => False) s₁
inductive PairAt (prog : Program) (w : World) (A : Around) (env : Env) (target : Expr) (body orelse : List Stmt) (Q : Flow → Shared → Prop) (it : Value) (s₂ : Shared) : Prop
  | mk (I : Nat → Shared → Prop) (n : Nat) (h : I n s₂) (turn : ∀ k s', I k s' → wpAny (model prog w) A (pyNext it) (PairTurn prog w A env target body orelse Q (Again I k) it) (fun _ _ => False) s')
theorem for_pair {target iter : Expr} {body orelse : List Stmt} {pos : Pos} {Q : Flow → Shared → Prop}
    (h : wpAny (model prog w) A (eval iter env) (fun xv s₁ => wpAny (model prog w) A (pyIter xv) (PairAt prog w A env target body orelse Q) (fun _ _ => False) s₁) (fun _ _ => False) s)
    (hs : ∀ x, foldedSetIterable iter env x = pure x := by intro _; rfl) :
    wpAny (model prog w) A (exec (.For target iter body orelse pos) env) Q (fun _ _ => False) s := by
  refine wpAny_For (wpAny_mono h (fun xv s₁ h₁ => wpAny_mono h₁ (fun it s₂ h₂ => ?_) fun _ _ z => z) fun _ _ z => z) hs
  obtain ⟨I, n, hn, turn⟩ := h₂
  refine codeAny_forLoop_any (R := fun r s' => match r with | .ok f => Q f s' | .error e => cameBackBy (model prog w) A env (fun _ _ => False) e s') I ?_ n hn
  intro k s' hk
  refine wpAny_mono (turn k s' hk) (fun r s₁ hr => ?_) fun _ _ z => z.elim
  cases r with
  | none => exact wpAny_mono (hr : wpAny _ _ (execs orelse env) Q _ s₁) (fun _ _ z => z) fun _ _ z => z.elim
  | some y =>
    refine wpAny_mono (hr : wpAny _ _ (letOwnedTupleGo target it y) _ _ s₁) (fun _ s₂ h₂ => ?_) fun _ _ z => z.elim
    refine wpAny_mono (h₂ : wpAny _ _ (assign target env y) _ _ s₂) (fun _ s₃ h₃ => ?_) fun _ _ z => z.elim
    refine wpAny_mono h₃ (fun f s₄ h₄ => ?_) fun _ _ z => z.elim
    cases f with
    | next => exact h₄.elim'
    | cont => exact h₄.elim'
    | brk => exact h₄
    | ret _ => exact h₄
noncomputable abbrev zipObj (f0 : Value) (TI TO : Addr) : Obj := { cls := .type "zip", data := .fields #[f0, .bool false, .bool false, .ref TI, .ref TO] }
noncomputable abbrev pairObj (a b : Value) : Obj := { cls := .type "tuple", data := .seq #[a, b] }
noncomputable abbrev zipN (z TI TO i1 i2 : Addr) (a b : Value) (o1 o2 : Obj) : List (Addr × Obj) := [(z, zipObj .none TI TO), (TI, pairObj (.ref i1) (.ref i2)), (TO, pairObj a b), (i1, o1), (i2, o2)]
noncomputable def zipOrd (z TI TO i1 i2 : Addr) : Prop := @LT.lt Nat _ i1 i2 ∧ @LT.lt Nat _ i2 TI ∧ @LT.lt Nat _ TI TO ∧ @LT.lt Nat _ TO z
theorem fr_keeps {h h' : Heap} (F : Fr h₀ L h m) (k : ∀ c o, h.get? c = some o → h'.get? c = some o) : Fr h₀ L h' m := ⟨F.ns.keeps k, fun b o e => k b o (F.keep b o e), F.above⟩
theorem call_zip {l1 l2 : Addr} {xs ys : Array Value} {n1 n2 : Nat} {Q : Value → Shared → Prop} (F : Fr h₀ L s.heap m) (N : News h₀ L s.heap news) (hl1 : (l1, W.listOf xs n1) ∈ news) (hl2 : (l2, W.listOf ys n2) ∈ news)
    (h : ∀ z TI TO i1 i2 o1 o2 h', IsIt o1 l1 0 → IsIt o2 l2 0 → Fr h₀ L h' m → News h₀ L h' (zipN z TI TO i1 i2 .none .none o1 o2 ++ news) → zipOrd z TI TO i1 i2 → (∀ p ∈ news, p.1 < i1) → Q (.ref z) { s with heap := h' }) :
    wpAny (model prog w) A (call (.type "zip") [.ref l1, .ref l2]) Q E s := by
  refine call_zip_2 ⟨_, (N _ hl1).1, rfl, _, rfl⟩ ⟨_, (N _ hl2).1, rfl, _, rfl⟩ fun h' hz hTI hTO h1 h2 hsz hk => ?_
  obtain ⟨o1, e1, c1, d1⟩ := h1
  obtain ⟨o2, e2, c2, d2⟩ := h2
  have hLs : L < s.heap.objs.size := F.ns.lt
  have fresh : ∀ j : Nat, h₀.get? (s.heap.objs.size + j) = none := fun j => Heap.get?_none_of_le (Nat.le_trans F.above (Nat.le_of_lt (Nat.lt_of_lt_of_le hLs (Nat.le_add_right _ _))))
  have nl : ∀ j : Nat, s.heap.objs.size + j ≠ L := fun j => Nat.ne_of_gt (Nat.lt_of_lt_of_le hLs (Nat.le_add_right _ _))
  refine h (s.heap.objs.size + 4) (s.heap.objs.size + 2) (s.heap.objs.size + 3) s.heap.objs.size (s.heap.objs.size + 1) o1 o2 h' ⟨c1, d1⟩ ⟨c2, d2⟩ (fr_keeps F hk) ?_ ?_ (fun p hp => Heap.lt_size (N p hp).1)
  · intro p hp
    simp only [zipN, List.cons_append, List.nil_append, List.mem_cons] at hp
    rcases hp with rfl | rfl | rfl | rfl | rfl | hp
    · exact ⟨hz, nl 4, fresh 4⟩
    · exact ⟨hTI, nl 2, fresh 2⟩
    · exact ⟨hTO, nl 3, fresh 3⟩
    · exact ⟨e1, nl 0, fresh 0⟩
    · exact ⟨e2, nl 1, fresh 1⟩
    · exact ⟨hk _ _ (N p hp).1, (N p hp).2⟩
  · refine ⟨?_, ?_, ?_, ?_⟩ <;> (show @LT.lt Nat _ _ _; omega)
theorem iter_zip {z TI TO : Addr} {f0 : Value} {Q : Value → Shared → Prop} (N : News h₀ L s.heap news) (hz : (z, zipObj f0 TI TO) ∈ news) (h : Q (.ref z) s) : wpAny (model prog w) A (pyIter (.ref z)) Q E s :=
  wpAny_pyIter_zip (N _ hz).1 h
theorem next_zip {elts : List Expr} {x1 : Nat} {pos : Pos} {body orelse : List Stmt} {Qf : Flow → Shared → Prop} {rest : Shared → Prop} {z TI TO i1 i2 l1 l2 : Addr} {a b : Value} {o1 o2 : Obj} {k : Nat} {xs ys : Array Value} {n1 n2 : Nat}
    (hh : A.handled = none) (hi1 : IsIt o1 l1 k) (hi2 : IsIt o2 l2 k) (F : Fr h₀ L s.heap m) (N : News h₀ L s.heap (zipN z TI TO i1 i2 a b o1 o2 ++ news)) (O : zipOrd z TI TO i1 i2) (off : ∀ p ∈ news, @LT.lt Nat _ p.1 i1)
    (hl1 : (l1, W.listOf xs n1) ∈ news) (hl2 : (l2, W.listOf ys n2) ∈ news)
    (item : ∀ x y T o1' o2' h', xs[k]? = some x → ys[k]? = some y → IsIt o1' l1 (k + 1) → IsIt o2' l2 (k + 1) → Fr h₀ L h' m → News h₀ L h' ((T, pairObj x y) :: (zipN z TI TO i1 i2 x y o1' o2' ++ news)) → @LT.lt Nat _ z T →
      ForTurn prog w A env (.Tuple elts x1 pos) body orelse Qf rest (some (.ref T)) { s with heap := h' })
    (done : ∀ h', (xs[k]? = none ∨ ys[k]? = none) → Fr h₀ L h' m → News h₀ L h' news → wpAny (model prog w) A (execs orelse env) Qf (fun _ _ => False) { s with heap := h' }) :
    wpAny (model prog w) A (pyNext (.ref z)) (PairTurn prog w A env (.Tuple elts x1 pos) body orelse Qf rest (.ref z)) (fun _ _ => False) s := by
  obtain ⟨q1, q2, q3, q4⟩ := O
  have m0 := N (z, zipObj .none TI TO) (by simp)
  have m1 := N (TI, pairObj (.ref i1) (.ref i2)) (by simp)
  have m2 := N (TO, pairObj a b) (by simp)
  have m3 := N (i1, o1) (by simp)
  have m4 := N (i2, o2) (by simp)
  have e1 := N _ (List.mem_append_right _ hl1)
  have e2 := N _ (List.mem_append_right _ hl2)
  have b1 := off _ hl1
  have b2 := off _ hl2
  have ne : ∀ {x y : Addr}, @LT.lt Nat _ x y → x ≠ y := fun h => Nat.ne_of_lt h
  have D : ZipApart z TI TO i1 i2 l1 l2 := {
    TIz := ne (by omega), TOz := ne q4, i1z := ne (by omega), i2z := ne (by omega), TITO := ne q3, TIi1 := (ne (by omega)).symm, TIi2 := (ne (by omega)).symm, TOi1 := (ne (by omega)).symm, TOi2 := (ne (by omega)).symm,
    i12 := ne q1, l1z := ne (by omega), l1TO := ne (by omega), l1i1 := ne b1, l1i2 := ne (by omega), l2z := ne (by omega), l2TO := ne (by omega), l2i1 := ne b2, l2i2 := ne (by omega) }
  have L1 : s.heap.IsListIter i1 l1 k := ⟨_, m3.1, hi1.1, hi1.2⟩
  have L2 : s.heap.IsListIter i2 l2 k := ⟨_, m4.1, hi2.1, hi2.2⟩
  have I1 : s.heap.IsList l1 xs := ⟨_, e1.1, rfl, _, rfl⟩
  have I2 : s.heap.IsList l2 ys := ⟨_, e2.1, rfl, _, rfl⟩
  have fr' : ∀ h' : Heap, (∀ c o, c ≠ z → c ≠ TO → c ≠ i1 → c ≠ i2 → s.heap.get? c = some o → h'.get? c = some o) → Fr h₀ L h' m := fun h' kk =>
    ⟨F.ns.at' fun o e => kk _ o (Ne.symm m0.2.1) (Ne.symm m2.2.1) (Ne.symm m3.2.1) (Ne.symm m4.2.1) e, fun b o e => kk b o (fun q => by rw [q, m0.2.2] at e; cases e) (fun q => by rw [q, m2.2.2] at e; cases e) (fun q => by rw [q, m3.2.2] at e; cases e) (fun q => by rw [q, m4.2.2] at e; cases e) (F.keep b o e), F.above⟩
  have nw' : ∀ h' : Heap, (∀ c o, c ≠ z → c ≠ TO → c ≠ i1 → c ≠ i2 → s.heap.get? c = some o → h'.get? c = some o) → News h₀ L h' news := fun h' kk p hp => by
    have o := off p hp
    refine ⟨kk _ _ (ne (by omega)) (ne (by omega)) (ne (by omega)) (ne (by omega)) (N p (List.mem_append_right _ hp)).1, (N p (List.mem_append_right _ hp)).2⟩
  cases hx : xs[k]? with
  | none =>
    exact wpAny_pyNext_zip_end hh D m0.1 m1.1 m2.1 L1 L2 I1 I2 (.inl hx) fun h' kk => done h' (.inl hx) (fr' h' kk) (nw' h' kk)
  | some x =>
    cases hy : ys[k]? with
    | none => exact wpAny_pyNext_zip_end hh D m0.1 m1.1 m2.1 L1 L2 I1 I2 (.inr hy) fun h' kk => done h' (.inr hy) (fr' h' kk) (nw' h' kk)
    | some y =>
      refine wpAny_pyNext_zip_item D m0.1 m1.1 m2.1 L1 L2 I1 I2 hx hy fun h' hz hTO h1 h2 hT hsz kk => ?_
      obtain ⟨o1', f1, c1, d1⟩ := h1
      obtain ⟨o2', f2, c2, d2⟩ := h2
      have zs : z < s.heap.objs.size := Heap.lt_size m0.1
      have Ls : L < s.heap.objs.size := F.ns.lt
      refine wpAny_letOwnedTupleGo_zip hz fun h2' hz2 sb => ?_
      have kb := sb.extBut
      refine item x y s.heap.objs.size o1' o2' h2' hx hy ⟨c1, d1⟩ ⟨c2, d2⟩ (fr_ext (fr' h' kk) kb (Ne.symm m0.2.1) m0.2.2) ?_ zs
      intro p hp
      simp only [zipN, List.cons_append, List.nil_append, List.mem_cons] at hp
      rcases hp with rfl | rfl | rfl | rfl | rfl | rfl | hp
      · exact ⟨kb _ _ (Nat.ne_of_gt zs) hT, Nat.ne_of_gt Ls, Heap.get?_none_of_le (Nat.le_trans F.above (Nat.le_of_lt Ls))⟩
      · exact ⟨hz2, m0.2⟩
      · exact ⟨kb _ _ D.TIz (kk _ _ D.TIz D.TITO D.TIi1 D.TIi2 m1.1), m1.2⟩
      · exact ⟨kb _ _ D.TOz hTO, m2.2⟩
      · exact ⟨kb _ _ D.i1z f1, m3.2⟩
      · exact ⟨kb _ _ D.i2z f2, m4.2⟩
      · have o := off p hp
        exact ⟨kb _ _ (ne (by omega)) (nw' h' kk p hp).1, (nw' h' kk p hp).2⟩
noncomputable abbrev enumObj (it : Addr) (i : Int) (old : Value) : Obj := { cls := .type "enumerate", dict := none, data := .fields #[.none, .bool false, .ref it, rawInt i, .none, old], slots := #[] }
theorem call_enum {l : Addr} {xs : Array Value} {n : Nat} {Q : Value → Shared → Prop} (F : Fr h₀ L s.heap m) (N : News h₀ L s.heap news) (hl : (l, W.listOf xs n) ∈ news)
    (h : ∀ e it o1 h', IsIt o1 l 0 → Fr h₀ L h' m → News h₀ L h' ((e, enumObj it 0 .none) :: (it, o1) :: news) → @LT.lt Nat _ it e → (∀ p ∈ news, p.1 < it) → Q (.ref e) { s with heap := h' }) :
    wpAny (model prog w) A (call (.type "enumerate") [.ref l]) Q E s := by
  refine call_enumerate_1 (N _ hl).1 fun h' he h1 hsz hk => ?_
  obtain ⟨o1, e1, c1, d1⟩ := h1
  have hLs : L < s.heap.objs.size := F.ns.lt
  have fresh : ∀ j : Nat, h₀.get? (s.heap.objs.size + j) = none := fun j => Heap.get?_none_of_le (Nat.le_trans F.above (Nat.le_of_lt (Nat.lt_of_lt_of_le hLs (Nat.le_add_right _ _))))
  have nl : ∀ j : Nat, s.heap.objs.size + j ≠ L := fun j => Nat.ne_of_gt (Nat.lt_of_lt_of_le hLs (Nat.le_add_right _ _))
  refine h (s.heap.objs.size + 1) s.heap.objs.size o1 h' ⟨c1, d1⟩ (fr_keeps F hk) ?_ (by show @LT.lt Nat _ _ _; omega) (fun p hp => Heap.lt_size (N p hp).1)
  intro p hp
  simp only [List.mem_cons] at hp
  rcases hp with rfl | rfl | hp
  · exact ⟨he, nl 1, fresh 1⟩
  · exact ⟨e1, nl 0, fresh 0⟩
  · exact ⟨hk _ _ (N p hp).1, (N p hp).2⟩
theorem iter_enum {e it : Addr} {i : Int} {old : Value} {Q : Value → Shared → Prop} (N : News h₀ L s.heap news) (hz : (e, enumObj it i old) ∈ news) (h : Q (.ref e) s) : wpAny (model prog w) A (pyIter (.ref e)) Q E s :=
  wpAny_pyIter_enum (N _ hz).1 h
theorem next_enum {elts : List Expr} {x1 : Nat} {pos : Pos} {body orelse : List Stmt} {Qf : Flow → Shared → Prop} {rest : Shared → Prop} {e it l : Addr} {old : Value} {o1 : Obj} {k : Nat} {xs : Array Value} {n1 : Nat}
    (hh : A.handled = none) (hi1 : IsIt o1 l k) (F : Fr h₀ L s.heap m) (N : News h₀ L s.heap ((e, enumObj it (k : Int) old) :: (it, o1) :: news)) (O : @LT.lt Nat _ it e) (off : ∀ p ∈ news, @LT.lt Nat _ p.1 it)
    (hl1 : (l, W.listOf xs n1) ∈ news)
    (item : ∀ x T t o1' h' tk', xs[k]? = some x → IsIt o1' l (k + 1) → Fr h₀ L h' m → News h₀ L h' ((T, pairObj (.int (k : Int) t) x) :: (e, enumObj it ((k + 1 : Nat) : Int) x) :: (it, o1') :: news) → @LT.lt Nat _ e T →
      ForTurn prog w A env (.Tuple elts x1 pos) body orelse Qf rest (some (.ref T)) { s with heap := h', toks := tk' })
    (done : ∀ h', xs[k]? = none → Fr h₀ L h' m → News h₀ L h' news → wpAny (model prog w) A (execs orelse env) Qf (fun _ _ => False) { s with heap := h' }) :
    wpAny (model prog w) A (pyNext (.ref e)) (PairTurn prog w A env (.Tuple elts x1 pos) body orelse Qf rest (.ref e)) (fun _ _ => False) s := by
  have m0 := N (e, enumObj it (k : Int) old) (by simp)
  have m3 := N (it, o1) (by simp)
  have e1 := N _ (List.mem_cons_of_mem _ (List.mem_cons_of_mem _ hl1))
  have b1 := off _ hl1
  have ne : ∀ {x y : Addr}, @LT.lt Nat _ x y → x ≠ y := fun h => Nat.ne_of_lt h
  have L1 : s.heap.IsListIter it l k := ⟨_, m3.1, hi1.1, hi1.2⟩
  have I1 : s.heap.IsList l xs := ⟨_, e1.1, rfl, _, rfl⟩
  have eit : e ≠ it := (ne O).symm
  cases hx : xs[k]? with
  | none =>
    refine wpAny_pyNext_enum_end hh m0.1 L1 I1 hx fun h' kk => done h' hx (fr_ext F kk (Ne.symm m3.2.1) m3.2.2) fun p hp => ?_
    exact ⟨kk _ _ (ne (off p hp)) (N p (by simp [hp])).1, (N p (by simp [hp])).2⟩
  | some x =>
    refine wpAny_pyNext_enum_item m0.1 L1 I1 hx eit fun h' he h1 hT hsz kk => ?_
    obtain ⟨o1', f1, c1, d1⟩ := h1
    have es : e < s.heap.objs.size := Heap.lt_size m0.1
    have Ls : L < s.heap.objs.size := F.ns.lt
    refine wpAny_letOwnedTupleGo_enum he fun h2' he2 sb => ?_
    have kb := sb.extBut
    refine item x s.heap.objs.size s.toks o1' h2' (s.toks + 1) hx ⟨c1, d1⟩ ?_ ?_ es
    · have F' : Fr h₀ L h' m := ⟨F.ns.at' fun o q => kk _ o (Ne.symm m0.2.1) (Ne.symm m3.2.1) q, fun b o q => kk b o (fun z => by rw [z, m0.2.2] at q; cases q) (fun z => by rw [z, m3.2.2] at q; cases q) (F.keep b o q), F.above⟩
      exact fr_ext F' kb (Ne.symm m0.2.1) m0.2.2
    · intro p hp
      simp only [List.mem_cons] at hp
      rcases hp with rfl | rfl | rfl | hp
      · exact ⟨kb _ _ (Nat.ne_of_gt es) hT, Nat.ne_of_gt Ls, Heap.get?_none_of_le (Nat.le_trans F.above (Nat.le_of_lt Ls))⟩
      · exact ⟨he2, m0.2⟩
      · exact ⟨kb _ _ (Ne.symm eit) f1, m3.2⟩
      · have o := off p hp
        have q := N p (by simp [hp])
        exact ⟨kb _ _ (ne (by omega)) (kk _ _ (ne (by omega)) (ne o) q.1), q.2⟩
end
theorem setL_eq : ∀ (l : List Value) (k : Nat) (v : Value), k < l.length → ki_setL l k v = some (l.set k v)
  | x :: r, 0, v, _ => rfl
  | x :: r, k + 1, v, h => by
    have := setL_eq r k v (by simpa using h)
    show (match ki_setL r k v with | some q => some (x :: q) | none => none) = _
    rw [this]; rfl
theorem set_list {prog : Program} {w : World} {A : Around} {s : Shared} {h₀ : Heap} {L : Addr} {m : Str → Option Value} {news news' : List (Addr × Obj)} {E : Value → Shared → Prop} {D : Addr} {ds : List Value} {n : Nat} {k : Int} {t : Tok} {v : Value} {Q : Unit → Shared → Prop} (F : Fr h₀ L s.heap m) (N : News h₀ L s.heap news) (h0 : 0 ≤ k ∧ k < ds.length ∧ k < 2 ^ 63) (U : Upd D (W.listOf ds.toArray n) (W.listOf (ds.set k.toNat v).toArray n) news news')
    (h : ∀ h', Fr h₀ L h' m → News h₀ L h' news' → Q () { s with heap := h' }) : wpAny (model prog w) A (setItem (.ref D) (.int k t) v) Q E s :=
  ki_set F N h0.1 h0.2.2 (by show ki_setL ds.toArray.toList _ _ = _; rw [List.toList_toArray]; exact setL_eq _ _ _ (by omega)) U h
theorem ints_set : ∀ {vs : List Value} {ns : List Int} (k : Nat) (x : Int) (t : Tok), IntsAre vs ns → IntsAre (vs.set k (.int x t)) (ns.set k x)
  | _, _, _, _, _, .nil => .nil
  | _, _, 0, x, t, .cons _ _ h => .cons x t h
  | _, _, k + 1, x, t, .cons n u h => .cons n u (ints_set k x t h)
theorem ints_at : ∀ {vs : List Value} {ns : List Int} {i : Nat} {x : Value}, IntsAre vs ns → vs[i]? = some x → ∃ k t, ns[i]? = some k ∧ x = .int k t
  | _, _, 0, x, .cons n u h, e => ⟨n, u, rfl, (Option.some.inj e).symm⟩
  | _, _, i + 1, x, .cons n u h, e => ints_at (i := i) (x := x) h e
theorem strs_at : ∀ {vs : List Value} {ns : List Str} {i : Nat} {x : Value}, StrsAre vs ns → vs[i]? = some x → ∃ k t, ns[i]? = some k ∧ x = .str k t
  | _, _, 0, x, .cons n u h, e => ⟨n, u, rfl, (Option.some.inj e).symm⟩
  | _, _, i + 1, x, .cons n u h, e => strs_at (i := i) (x := x) h e
theorem ints_len : ∀ {vs : List Value} {ns : List Int}, IntsAre vs ns → vs.length = ns.length
  | _, _, .nil => rfl
  | _, _, .cons _ _ h => congrArg (· + 1) (ints_len h)
theorem strs_len : ∀ {vs : List Value} {ns : List Str}, StrsAre vs ns → vs.length = ns.length
  | _, _, .nil => rfl
  | _, _, .cons _ _ h => congrArg (· + 1) (strs_len h)
theorem ins_list {prog : Program} {w : World} {A : Around} {s : Shared} {h₀ : Heap} {L : Addr} {m : Str → Option Value} {news news' : List (Addr × Obj)} {E : Value → Shared → Prop} {D : Addr} {ds : List Value} {n : Nat} {x : Int} {u : Tok} {y : Value} {Q : Value → Shared → Prop} (F : Fr h₀ L s.heap m) (N : News h₀ L s.heap news) (h0 : 0 ≤ x ∧ x < 2 ^ 62 ∧ ds.length ≤ 1000) (U : Upd D (W.listOf ds.toArray n) (W.listOf (kl_ins ds x y).toArray (n + 1)) news news')
    (h : ∀ h', Fr h₀ L h' m → News h₀ L h' news' → Q .none { s with heap := h' }) : wpAny (model prog w) A (call (.builtin "list.insert") [.ref D, .int x u, y]) Q E s :=
  kl_insert F N (by unfold Builtin.List.listFitsIndex; simp; omega) (by rw [List.toList_toArray]) U (by rw [List.toList_toArray, PySem.sizeLine_eq]; omega) h
noncomputable def insN (l : List Nat) (x : Int) (y : Nat) : List Nat := l.take (if x < 0 then (x + (l.length : Int)).toNat else min x.toNat l.length) ++ y :: l.drop (if x < 0 then (x + (l.length : Int)).toNat else min x.toNat l.length)
theorem insN_perm (l : List Nat) (x : Int) (y : Nat) : List.Perm (insN l x y) (y :: l) := by
  unfold insN
  refine List.perm_middle.trans ?_
  rw [List.take_append_drop]
theorem ints_ins {vs : List Value} {l : List Nat} (h : IntsAre vs (l.map fun (x : Nat) => (x : Int))) (x : Int) (y : Nat) (t : Tok) : IntsAre (kl_ins vs x (.int (y : Int) t)) ((insN l x y).map fun (x : Nat) => (x : Int)) := by
  have hl : vs.length = l.length := by rw [ints_len h, List.length_map]
  unfold kl_ins insN
  rw [hl, List.map_append, List.map_cons, List.map_take, List.map_drop]
  exact (h.take _).append (.cons _ _ (h.drop _))
theorem compEnd_mono {h₀ : Heap} {L : Addr} {m : Str → Option Value} {s₁ : Shared} {I : Addr} {oI : Obj} {C : Addr} {oC : Obj} {D : Addr} {oD : Obj} {S : List (Addr × Obj) → Prop} {r r' : Value → List (Addr × Obj) → Prop} {y : Value} {s₂ : Shared} (h : LCg.CompEnd h₀ L m s₁ I oI C oC D oD S r y s₂) (k : ∀ nw, r y nw → r' y nw) : LCg.CompEnd h₀ L m s₁ I oI C oC D oD S r' y s₂ := by
  obtain ⟨h', tk', nw', e, F', N', off', hS, hn⟩ := h
  exact ⟨h', tk', nw', e, F', N', off', hS, k _ hn⟩
theorem comp_restT {prog : Program} {w : World} {A : Around} {s : Shared} {h₀ : Heap} {L : Addr} {m : Str → Option Value} {env : Env} {news : List (Addr × Obj)} {ct elt : Expr} {x : Str} {scope : Scope} {cl : List (Str × Addr)} {S : List (Addr × Obj) → Prop} {P : Nat → Value → Prop} {Fin : List Value → List (Addr × Obj) → Prop} {n : Nat} (J : Nat → List Value → List (Addr × Obj) → Prop) (hj : J 0 [] news)
    (turn : ∀ i v I oI C oC D m₂ h tk (E' : Value → Shared → Prop), i < n → ∀ ys nw, J i ys nw → P i v → LCg.NsObj oC m₂ → m₂ x = some v → Fr h₀ L h m → News h₀ L h ((I, oI) :: (C, oC) :: (D, LCg.lst ys) :: nw) → LCg.Off3 I C D nw → ((@Ne Nat I C) ∧ (@Ne Nat I D) ∧ (@Ne Nat C D)) →
      wpAny (model prog w) A (isTrue ct (compEnvC scope cl C env) (eval ct (compEnvC scope cl C env))) (fun ok s' => if ok = true then
        wpAny (model prog w) A (eval elt (compEnvC scope cl C env)) (LCg.CompEnd h₀ L m { s with heap := h, toks := tk } I oI C oC D (LCg.lst ys) S (fun y nw' => J (i + 1) (ys ++ [y]) nw')) E' s'
        else LCg.CompEnd h₀ L m { s with heap := h, toks := tk } I oI C oC D (LCg.lst ys) S (fun _ nw' => J (i + 1) ys nw') Value.none s') E' { s with heap := h, toks := tk })
    (fin : ∀ ys nw, J n ys nw → Fin ys nw) : LCt.CompRestT prog w A h₀ L m env ct elt x scope cl s S P Fin n 0 [] news := by
  have key : ∀ (j i : Nat) (ys : List Value) (nw : List (Addr × Obj)), i + j = n → J i ys nw → LCt.CompRestT prog w A h₀ L m env ct elt x scope cl s S P Fin j i ys nw := by
    intro j
    induction j with
    | zero =>
      intro i ys nw hi hy
      have e : i = n := by omega
      subst e
      exact LCt.CompRestT.zero (fin ys nw hy)
    | succ j ih =>
      intro i ys nw hi hy
      refine LCt.CompRestT.succ ?_
      intro v I oI C oC D m₂ h tk E' hv hC hx F N off ne
      refine wpAny_mono (turn i v I oI C oC D m₂ h tk E' (by omega) ys nw hy hv hC hx F N off ne) (fun ok s₂ hq => ?_) fun _ _ e => e
      cases ok with
      | true =>
        simp only [if_true] at hq ⊢
        exact wpAny_mono hq (fun y s₃ h₃ => compEnd_mono h₃ fun nw' hn => ih (i + 1) _ nw' (by omega) hn) fun _ _ e => e
      | false =>
        simp only [Bool.false_eq_true, if_false] at hq ⊢
        exact compEnd_mono hq fun nw' hn => ih (i + 1) _ nw' (by omega) hn
  exact key n 0 [] news (by omega) hj
end
section
theorem idx0 {x : Value} {vs : List Value} : seqIndex? 0 (x :: vs).toArray.size = some 0 := by
  unfold seqIndex?
  have h1 : (0 : Int) < ((x :: vs).toArray.size : Int) := by simp
  have h0 : ¬ ((0 : Int) < 0) := by decide
  simp only [h0, if_false, Int.le_refl, h1, decide_true, Bool.and_self, if_true]; rfl
section
theorem words_push_spec : True := by
  w_top off
  k_with_none
  k_with "mine ktr_room" => ((try simp only [depth_under_make, depth_under_kw, depth_in1, depth_deeper, depth_caller]); (try dsimp only [ktrTop]); first | decide | omega)
  k_with "mine ktr_units" => ((try simp only [units_in1, units_deeper, Around.mark_units, units_caller]); (try dsimp only [ktrTop]); first | (rw [cLine_is]; decide) | omega)
  k_with "mine call by" => ((case k1 => k_asm); (case k2 => kn_code); (case k3 => k_asm); (case k4 => k_asm); (case k5 => (refine' News.subs ?k51 ?k52; (case k51 => k_asm); (case k52 => ((repeat (refine List.forall_mem_cons.mpr (And.intro (by k_mem) ?_))); exact fun _ h => nomatch h)))); (case k6 => k_asm); (case k7 => first | exact rfl | assumption); (case k8 => ktr_room); (case k9 => ktr_units); (case kp => first | exact trivial | assumption))
  k_with "binaryOp Add str str" => (refine PyProof.Rows.add_str (hsz := ?hszq) ?_; (case hszq => assumption); intro _ _)
  k_with "call builtin:hex" => (refine P.hex_of_int ?_ (hsz := ?hszq); (case hszq => assumption))
  k_with "call builtin:list.append" => (k_here; (with_reducible show wpAny _ _ (call (Value.builtin _) [Value.ref _, _]) _ _ _); k_dflt (refine' append_K ?k1 ?k2 ?k3 ?_ ?z; (case k1 => k_asm); (case k2 => k_asm); (case k3 => k_upd); (case z => assumption); k_whole); intro h9w F9w N9w; (try k_sweep))
  k_with "call builtin:dict.get" => (k_here; k_dflt (refine' flag_get ?k1 ?k2 ?k3 ?k4 ?_; (case k1 => k_asm); (case k2 => exact Fr.keep (by with_reducible assumption)); (case k3 => assumption); (case k4 => assumption)); intro t9w tk9w)
  k_with "exec For Name Call cons nil" => (refine for_raw ?_)
  k_with "exec For Name Call cons cons" => (refine for_raw ?_)
  k_with "exec For Name Name cons nil" => (refine for_raw ?_)
  k_with "exec For Name Subscript cons nil" => (refine for_raw ?_)
  k_with "exec While Name cons nil" => (refine Stop.out ?_)
  k_with "subscriptTail" => (k_here; (with_reducible show wpAny _ _ (subscriptTail _ (Expr.Slice _ _ none _) (Value.bytes _ _) (Value.ref _)) _ _ _); (with_reducible rename Fr _ _ _ _ => F9w); (with_reducible rename News _ _ _ _ => N9w); (refine KBy.slice_N (s := ⟨_, _, _, _, _⟩) F9w N9w (by constructor) (by constructor) (by assumption) (by assumption) ?_); intro _ _ _ _ _)
  k_with "binaryOp Add bytes bytes" => (k_here; (with_reducible show wpAny _ _ (binaryOp Operator.Add (Value.bytes _ _) (Value.bytes _ _)) _ _ _); (refine KBy.add_bytes (by assumption) ?_); intro _ _)
  k_with "mine enter" => (k_dflt (refine' enter_plain ?k1 ?k2 ?k3 ?k4 ?k5 ?kA ?kF ?kK ?k6 ?k7 ?k8 ?k9 ?kB ?hr ?_ ?c2 ?c3 ?c4 ?c5; (case kA => exact rfl); (case kF => exact rfl); (case kK => assumption); (case k1 => k_asm); (case k2 => k_asm); (case k3 => k_asm); (case k4 => k_asm); (case k5 => k_asm); (case k6 => k_is); (case k7 => k_is); (case k8 => ktr_room); (case k9 => exact BindsTo.of_eq rfl); (case c5 => decide); (case kB => exact locs rfl); (case hr => assumption); (case c2 => exact rfl); (case c3 => exact rfl); (case c4 => exact rfl); k_whole))
  k_with "mine cells" => (k_dflt (refine' enter_cells ?k1 ?k2 ?k3 ?k4 ?k5 ?kA ?kF ?kK ?k6 ?k7 ?k8 ?k9 ?kB ?kD ?hr ?_ ?c2 ?c3 ?c4; (case kA => exact rfl); (case kF => exact rfl); (case kK => assumption); (case k1 => k_asm); (case k2 => k_asm); (case k3 => k_asm); (case k4 => k_asm); (case k5 => k_asm); (case k6 => k_is); (case k7 => k_is); (case k8 => ktr_room); (case k9 => exact BindsTo.of_eq rfl); (case kB => exact rfl); (case kD => decide +kernel); (case hr => assumption); (case c2 => exact rfl); (case c3 => exact rfl); (case c4 => exact rfl); k_whole))
  k_with "mine made" => (k_dflt (refine' enter_made ?k1 ?k2 ?k3 ?k4 ?k5 ?kA ?kF ?kK ?k6 ?kd ?k7 ?k8 ?k9 ?kB ?hr ?_ ?c2 ?c3 ?c4 ?c5; (case kA => exact rfl); (case kF => exact rfl); (case kK => assumption); (case k1 => k_asm); (case k2 => k_asm); (case k3 => k_asm); (case k4 => k_asm); (case k5 => k_asm); (case k6 => k_mem); (case kd => exact rfl); (case k7 => exact codeRec_news (by k_asm) (by k_mem) (by assumption) (by assumption)); (case k8 => ktr_room); (case k9 => exact BindsTo.of_eq rfl); (case c5 => decide); (case kB => exact locs rfl); (case hr => assumption); (case c2 => exact rfl); (case c3 => exact rfl); (case c4 => exact rfl); k_whole))
  k_with "subscriptTail" => (k_here; (with_reducible show wpAny _ _ (subscriptTail _ (Expr.Slice _ _ none _) (Value.str _ _) (Value.ref _)) _ _ _); (with_reducible rename Fr _ _ _ _ => F9w); (with_reducible rename News _ _ _ _ => N9w); (first
  | ((with_reducible show wpAny _ _ (subscriptTail _ (Expr.Slice (some _) (some _) none _) _ _) _ _ _); (refine slice_strN_ss (hsz := ?hsz) (s := ⟨_, _, _, _, _⟩) F9w N9w ?_); (case hsz => assumption))
  | ((with_reducible show wpAny _ _ (subscriptTail _ (Expr.Slice none (some _) none _) _ _) _ _ _); (refine slice_strN_ns (hsz := ?hsz) (s := ⟨_, _, _, _, _⟩) F9w N9w ?_); (case hsz => assumption))); intro _ _ _ _ _)
  k_with "call builtin:len" => (k_here; (with_reducible show wpAny _ _ (call (Value.builtin "len") [Value.str _ _]) _ _ _); refine PyProof.Rows.len_str ?hfit ?_; (case hfit => first | exact len_fitS (by assumption) | exact len_fits (by assumption)))
  k_with "exec For Name Name cons cons" => (refine for_raw ?_)
  k_with "call builtin:iter" => (k_here; (with_reducible show wpAny _ _ (call (Value.builtin _) [Value.ref _, Value.str _ _]) _ _ _); k_dflt (refine' call_iter2 ?k1 ?k2 ?k3 ?_; (case k1 => k_asm); (case k2 => k_asm); (case k3 => k_mem); k_whole); intro it9w h9w F9w N9w l9w G9w; (try k_lt l9w))
  k_with "inplaceOp Add str str" => (refine PyProof.Rows.iadd_str (hsz := ?hszi) ?_; (case hszi => assumption); intro _ _)
  k_with "truthy ref" => (k_here; k_dflt (refine' wpAny_truthy_list (News.isList ?N ?m) ?f ?_; (case N => k_asm); (case m => k_mem); (case f => assumption)); (try simp only [List.isEmpty_toArray, List.isEmpty_cons, Bool.not_false]))
  k_with "call builtin:list.pop" => (k_here; k_dflt ((with_reducible show wpAny _ _ (call (Value.builtin _) [Value.ref _, Value.int _ _]) _ _ _); refine' kl_popAt (p := []) ?F ?N ?f ?k ?e ?U ?z ?_; (case F => k_asm); (case N => k_asm); (case U => k_upd); (case f => exact rfl); (case k => exact idx0); (case e => exact rfl); (case z => assumption)); intro h9w F9w N9w; (try dsimp only [List.nil_append, List.cons_append] at N9w))
  k_with "lt0" => (first | with_reducible assumption | exact And.left (by with_reducible assumption) | exact And.left (And.right (by with_reducible assumption)) | exact And.left (And.right (And.right (by with_reducible assumption))) | exact And.left (And.right (And.right (And.right (by with_reducible assumption)))) | exact And.left (And.right (And.right (And.right (And.right (by with_reducible assumption))))) | exact And.left (And.right (And.right (And.right (And.right (And.right (by with_reducible assumption)))))) | exact And.left (And.right (And.right (And.right (And.right (And.right (And.right (by with_reducible assumption))))))) | exact And.left (And.right (And.right (And.right (And.right (And.right (And.right (And.right (by with_reducible assumption)))))))) | exact And.left (And.right (And.right (And.right (And.right (And.right (And.right (And.right (And.right (by with_reducible assumption))))))))) | exact And.left (And.right (And.right (And.right (And.right (And.right (And.right (And.right (And.right (And.right (by with_reducible assumption)))))))))) | exact And.left (And.right (And.right (And.right (And.right (And.right (And.right (And.right (And.right (And.right (And.right (by with_reducible assumption))))))))))) | exact And.left (And.right (And.right (And.right (And.right (And.right (And.right (And.right (And.right (And.right (And.right (And.right (by with_reducible assumption)))))))))))) | exact And.right (by with_reducible assumption) | exact And.right (And.right (by with_reducible assumption)) | exact And.right (And.right (And.right (by with_reducible assumption))) | exact And.right (And.right (And.right (And.right (by with_reducible assumption)))) | exact And.right (And.right (And.right (And.right (And.right (by with_reducible assumption))))) | exact And.right (And.right (And.right (And.right (And.right (And.right (by with_reducible assumption)))))) | exact And.right (And.right (And.right (And.right (And.right (And.right (And.right (by with_reducible assumption))))))) | exact And.right (And.right (And.right (And.right (And.right (And.right (And.right (And.right (by with_reducible assumption)))))))) | exact And.right (And.right (And.right (And.right (And.right (And.right (And.right (And.right (And.right (by with_reducible assumption))))))))) | exact And.right (And.right (And.right (And.right (And.right (And.right (And.right (And.right (And.right (And.right (by with_reducible assumption)))))))))) | exact And.right (And.right (And.right (And.right (And.right (And.right (And.right (And.right (And.right (And.right (And.right (by with_reducible assumption))))))))))) | exact nat_lt1 _)
  k_with "ch" => (first | with_reducible assumption | (refine Nat.lt_trans (by with_reducible assumption) ?_; k_extra "ch"))
  k_with "lt" => (first | k_extra "lt0" | exact nat_ltS (by k_extra "lt0") | exact nat_ltS (nat_ltS (by k_extra "lt0")) | exact nat_ltS (nat_ltS (nat_ltS (by k_extra "lt0"))) | exact nat_ltS (nat_ltS (nat_ltS (nat_ltS (by k_extra "lt0")))) | exact nat_ltS (nat_ltS (nat_ltS (nat_ltS (nat_ltS (by k_extra "lt0"))))) | exact nat_ltS (nat_ltS (nat_ltS (nat_ltS (nat_ltS (nat_ltS (by k_extra "lt0")))))) | exact nat_ltS (nat_ltS (nat_ltS (nat_ltS (nat_ltS (nat_ltS (nat_ltS (by k_extra "lt0"))))))) | exact nat_ltS (nat_ltS (nat_ltS (nat_ltS (nat_ltS (nat_ltS (nat_ltS (nat_ltS (by k_extra "lt0")))))))) | k_extra "ch")
  k_with "omega" => (first
    | with_reducible assumption
    | exact Nat.ne_of_lt (by with_reducible assumption) | exact Nat.ne_of_gt (by with_reducible assumption)
    | exact nat_room2 (by with_reducible assumption) (by rfl) | exact nat_room1 (by with_reducible assumption) (by rfl) | exact nat_room3 (by with_reducible assumption) (by rfl) | exact nat_room0 (by with_reducible assumption)
    | exact nat_meas (by with_reducible assumption) | exact nat_meas (Nat.lt_succ_of_lt (by with_reducible assumption))
    | exact c_low (by with_reducible assumption) (by rfl) | exact c_high (by with_reducible assumption) (by rfl) | exact c_lt (by with_reducible assumption) (by rfl)
    | exact Nat.succ_le_of_lt (by with_reducible assumption) | exact Nat.lt_succ_of_le (by with_reducible assumption)
    | exact And.intro (by k_extra "lt") (by k_extra "lt")
    | exact Int.natCast_nonneg _ | exact Int.ofNat_lt.mpr (by with_reducible assumption) | exact Int.ofNat_le.mpr (by with_reducible assumption) | exact int_lt (by with_reducible assumption) (by decide) | exact int_le (by with_reducible assumption) (by decide) | exact Int.lt_of_lt_of_le (by with_reducible assumption) (by decide) | exact Int.le_trans (Int.le_of_lt (by with_reducible assumption)) (by decide)
    | exact Nat.ne_of_lt (by k_extra "lt") | exact Nat.ne_of_gt (by k_extra "lt") | k_extra "lt"
    | exact Nat.le_trans (by with_reducible assumption) (by decide) | exact nat_eqle (by with_reducible assumption) (by decide) | exact Nat.le_trans (Nat.succ_le_succ (by with_reducible assumption)) (by decide) | exact Nat.le_of_lt (by with_reducible assumption) | exact Nat.le_of_eq (by with_reducible assumption)
    | decide)
  exact True.intro
set_option maxRecDepth 100000 in
set_option maxHeartbeats 8000000 in
theorem push_spec (w : World) (a : LexA) (ho : a.Ordered) (p : Program) (loose : List Str) (mean : ExcName → Option Value) (mg mb : Str → Option Value) (line : Int) (tl : Tok) (vs : List Value) (n : Nat) (pos : Int) (tp : Tok) (np : Nat) (x : Str) (t : Tok) (hz : vs.toArray.size ≤ sizeLine) :
   Claim w p loose mean mg mb 64 2 (lexN w a line tl vs.toArray n pos tp np) [.ref a.lx, .str x t] (fun _ => True) (PutRet .none fun n' => lexN w a line tl (vs ++ [Value.str x t]).toArray n' pos tp np) := by
  have ho' := ho
  obtain ⟨p0, p1, p2, p3, p4, p5, p6, p7, p8⟩ := ho'
  dsimp only [Claim, PR, lexN] at *
  k_fill
  intro dp un gd cn cs ca ccd cl outer A₀ base h₀ L m s Q E hB hC hF hX hN hT hk hd hu hp hret
  refine wpAny_call ?_
  walk_at "mine enter"
  intro g L1 h1 FG F1 N1 B1 X1 T1 G1
  refine id ?_
  (with_reducible show wpAny _ _ _ _ _ _)
  k_fold
  k_steps
  refine Done.all (by assumption) (by assumption) ?_
  rw [List.push_toArray]
  exact .mk _
set_option maxRecDepth 100000 in
set_option maxHeartbeats 8000000 in
theorem pop_spec (w : World) (a : LexA) (ho : a.Ordered) (p : Program) (loose : List Str) (mean : ExcName → Option Value) (mg mb : Str → Option Value) (line : Int) (tl : Tok) (x : Value) (vs : List Value) (n : Nat) (pos : Int) (tp : Tok) (np : Nat) (hz : (x :: vs).toArray.toList.length ≤ sizeLine) (hz2 : ((x :: vs).toArray.size : Int) < 2 ^ 63) :
   Claim w p loose mean mg mb 57 2 (lexN w a line tl (x :: vs).toArray n pos tp np) [.ref a.lx] (fun _ => True) (PutRet x fun n' => lexN w a line tl vs.toArray n' pos tp np) := by
  have ho' := ho
  obtain ⟨p0, p1, p2, p3, p4, p5, p6, p7, p8⟩ := ho'
  dsimp only [Claim, PR, lexN] at *
  k_fill
  intro dp un gd cn cs ca ccd cl outer A₀ base h₀ L m s Q E hB hC hF hX hN hT hk hd hu hp hret
  refine wpAny_call ?_
  walk_at "mine enter"
  intro g L1 h1 FG F1 N1 B1 X1 T1 G1
  refine id ?_
  (with_reducible show wpAny _ _ _ _ _ _)
  k_fold
  k_steps
  refine Done.all (by assumption) (by assumption) ?_
  exact .mk _
end
end
theorem words_none_Cmp : True := by
  w_top off
  k_with_none
  exact True.intro
section
open PySem PySem.W PyProof.Rows PySem.Calls
theorem strs_canLay : ∀ ns : List Str, (∀ x ∈ ns, PyData.canLay0 (.str x) = true) → PyData.canLayAll0 (ns.map PyData.str) = true
  | [], _ => rfl
  | x :: r, h => by
    have h1 := h x List.mem_cons_self
    have h2 := strs_canLay r fun y hy => h y (List.mem_cons_of_mem _ hy)
    simp [PyData.canLayAll0, h1, h2]
theorem strs_depth : ∀ ns : List Str, PyData.depthAll (ns.map PyData.str) = 0
  | [] => rfl
  | _ :: r => by simp [PyData.depthAll, PyData.depth, strs_depth r]
theorem strs_shaped (ns : List Str) (h : ∀ x ∈ ns, PyData.canLay0 (.str x) = true) : SeqAt.shaped (.list (ns.map PyData.str)) = true := by
  simp [SeqAt.shaped, PyData.canLay0, PyData.depth, strs_canLay ns h, strs_depth]
theorem strs_sameAll : ∀ ns ms : List Str, PySem.Spec.sameAll (ns.map PyData.str) (ms.map PyData.str) = decide (ns = ms)
  | [], [] => by simp [PySem.Spec.sameAll]
  | [], _ :: _ => by simp [PySem.Spec.sameAll]
  | _ :: _, [] => by simp [PySem.Spec.sameAll]
  | a :: r, b :: t => by
    simp only [List.map_cons, PySem.Spec.sameAll, PySem.Spec.same, strs_sameAll r t]
    by_cases h : a = b <;> by_cases h' : r = t <;> simp [h, h']
theorem strs_same (ns ms : List Str) : PySem.Spec.same (.list (ns.map PyData.str)) (.list (ms.map PyData.str)) = decide (ns = ms) := by
  simp only [PySem.Spec.same]; exact strs_sameAll ns ms
theorem strs_carried : ∀ {vs : List Value} {ns : List Str}, StrsAre vs ns → CarriedAll vs (ns.map PyData.str)
  | _, _, .nil => .nil
  | _, _, .cons _ t r => .cons (.str _ t) (strs_carried r)
section
variable {prog : Program} {w : World} {A : Around} {E : Value → Shared → Prop} {s : Shared} {a b : Addr} {xs ys : List Value} {ns ms : List Str} {Q : Value → Shared → Prop}
theorem ne_strs (ha : s.heap.IsList a xs.toArray) (hb : s.heap.IsList b ys.toArray) (hi : StrsAre xs ns) (hj : StrsAre ys ms) (hn : ∀ x ∈ ns, PyData.canLay0 (.str x) = true) (hm : ∀ x ∈ ms, PyData.canLay0 (.str x) = true) (hu : A.units + 64 < cLine) (h : Q (.bool (!decide (ns = ms))) s) :
    wpAny (model prog w) A (compareOp .NotEq (.ref a) (.ref b)) Q E s :=
  ne_dataH_same (reads_newData ha (strs_carried hi)) (reads_newData hb (strs_carried hj)) (strs_shaped _ hn) (strs_shaped _ hm) hu (SeqAt.noMix_of_shape (.list .str) rfl _ _ (list_map_has fun _ => rfl) (list_map_has fun _ => rfl)) (by rw [strs_same]; exact h)
end
theorem off1_mem {D : Addr} (l : List (Addr × Obj)) (h : LCg.Off1 D l) : ∀ p ∈ l, @Ne Nat p.1 D := by
  induction l with
  | nil => intro p hp; cases hp
  | cons q r ih =>
    have h1 : (@Ne Nat q.1 D) ∧ LCg.Off1 D r := h
    exact List.forall_mem_cons.mpr ⟨h1.1, ih h1.2⟩
theorem off1_lex {w : World} {a : LexA} {front back : List (Addr × Obj)} {line : Int} {tl : Tok} {items : Array Value} {n : Nat} {pos : Int} {tp : Tok} {np : Nat} {D : Addr} (h : LCg.Off1 D (front ++ (lexN w a line tl items n pos tp np ++ back))) : offLex a D := by
  have q : ∀ p ∈ lexN w a line tl items n pos tp np, @Ne Nat p.1 D := fun p hp => off1_mem _ h p (List.mem_append_right _ (List.mem_append_left _ hp))
  simp only [lexN, List.forall_mem_cons] at q
  obtain ⟨q0, q1, q2, q3, q4, q5, q6, q7, q8, q9, _⟩ := q
  exact ⟨Ne.symm q0, Ne.symm q1, Ne.symm q2, Ne.symm q3, Ne.symm q4, Ne.symm q5, Ne.symm q6, Ne.symm q7, Ne.symm q8, Ne.symm q9⟩
theorem name_obj {h₀ h : Heap} {L x : Addr} {o : Obj} {all : List (Addr × Obj)} {P : Prop} (_N : News h₀ L h all) (_hm : (x, o) ∈ all) (k : ∀ o', o' = o → P) : P := k _ rfl
end
section
open PySem PySem.W PyProof.Rows PySem.Calls PySem.StrLaws PySem.Builtin PySem.Builtin.Str
noncomputable def joinL : List (List Nat) → List Nat
  | [] => []
  | [w] => w
  | w :: v :: r => w ++ 44 :: 32 :: joinL (v :: r)
theorem at_sep (x : PySem.Str) (i : Nat) : At x (PySem.Str.ofString ", ") x.length i ↔ i + 2 ≤ x.length ∧ (x.cps.toList.drop i).take 2 = [44, 32] := by
  have e1 : (PySem.Str.ofString ", ").length = 2 := by decide +kernel
  have e2 : (PySem.Str.ofString ", ").cps.toList = [44, 32] := by decide +kernel
  unfold At
  rw [subAt_eq, e1, e2]
  simp
theorem parts_join (x : PySem.Str) : ∀ (ws : List (List Nat)) (w : List Nat), (∀ v ∈ w :: ws, 44 ∉ v) → ∀ (cuts : List Nat) (a f : Nat), a ≤ x.length → x.cps.toList.drop a = joinL (w :: ws) →
    ChainG x (PySem.Str.ofString ", ") x.length a cuts f → (∀ k, f ≤ k → ¬ At x (PySem.Str.ofString ", ") x.length k) → partsFrom x 2 a cuts = (w :: ws).map strOf
  | [], w, hw, cuts, a, f, ha, hd, hG, hn => by
    cases cuts with
    | nil =>
      show [strSub x a x.length] = [strOf w]
      congr 1
      apply Str.ext'
      apply Array.toList_inj.mp
      rw [strSub_toList, hd]
      show w.take _ = w
      have hl : w.length = x.length - a := by
        have := congrArg List.length hd
        rw [List.length_drop] at this
        have e : x.cps.toList.length = x.length := by simp [PySem.Str.length]
        rw [e] at this
        exact this.symm
      rw [← hl, List.take_length]
    | cons c r =>
      have h1 := hG.1
      have h2 := ((at_sep x c).mp hG.2.1).2
      have h3 : x.cps.toList.drop c = w.drop (c - a) := by
        have : joinL [w] = w := rfl
        rw [← this, ← hd, List.drop_drop]; congr 1; omega
      rw [h3] at h2
      have : 44 ∈ (w.drop (c - a)).take 2 := by rw [h2]; simp
      exact absurd (List.mem_of_mem_drop (List.mem_of_mem_take this)) (hw w List.mem_cons_self)
  | v :: r, w, hw, cuts, a, f, ha, hd, hG, hn => by
    have en : x.cps.toList.length = x.length := by simp [PySem.Str.length]
    have hd' : x.cps.toList.drop a = w ++ (44 :: 32 :: joinL (v :: r)) := hd
    have hlen : a + w.length + 2 ≤ x.length := by
      have := congrArg List.length hd'
      rw [List.length_drop, en, List.length_append] at this
      simp only [List.length_cons] at this
      omega
    have hAt : At x (PySem.Str.ofString ", ") x.length (a + w.length) := by
      refine (at_sep x _).mpr ⟨hlen, ?_⟩
      rw [← List.drop_drop, hd', List.drop_left]; rfl
    cases cuts with
    | nil => 
      have ef : f = a := hG
      exact absurd hAt (hn _ (by omega))
    | cons c q =>
      have h1 := hG.1
      have hc : c = a + w.length := by
        rcases Nat.lt_trichotomy c (a + w.length) with h | h | h
        · exfalso
          have h2 := ((at_sep x c).mp hG.2.1).2
          have h3 : x.cps.toList.drop c = (w.drop (c - a)) ++ (44 :: 32 :: joinL (v :: r)) := by
            rw [← List.drop_append_of_le_length (by omega), ← hd', List.drop_drop]; congr 1; omega
          rw [h3] at h2
          cases hx : w.drop (c - a) with
          | nil => 
            have := congrArg List.length hx
            rw [List.length_drop] at this
            simp at this; omega
          | cons y t =>
            rw [hx] at h2
            have e44 : y = 44 := by
              have : (y :: t ++ 44 :: 32 :: joinL (v :: r)).take 2 = y :: ((t ++ 44 :: 32 :: joinL (v :: r)).take 1) := rfl
              rw [this] at h2
              exact (List.cons.inj h2).1
            have : y ∈ w := List.mem_of_mem_drop (i := c - a) (by rw [hx]; exact List.mem_cons_self)
            rw [e44] at this
            exact hw w List.mem_cons_self this
        · exact h
        · exact absurd hAt (hG.2.2.1 _ (by omega) h)
      show strSub x a c :: partsFrom x 2 (c + 2) q = _
      have e2 : (PySem.Str.ofString ", ").length = 2 := by decide +kernel
      have hG' := hG.2.2.2
      rw [e2] at hG'
      have ih := parts_join x r v (fun u hu => hw u (List.mem_cons_of_mem _ hu)) q (c + 2) f (by omega) (by
        rw [hc, Nat.add_assoc, ← List.drop_drop, hd', ← List.drop_drop, List.drop_left]; rfl) hG' hn
      rw [ih]
      show strSub x a c :: _ = strOf w :: _
      congr 1
      apply Str.ext'
      apply Array.toList_inj.mp
      rw [strSub_toList, hd', hc]
      have : a + w.length - a = w.length := by omega
      rw [this, List.take_left]; rfl
theorem split_join (x : PySem.Str) (w : List Nat) (ws : List (List Nat)) (hw : ∀ v ∈ w :: ws, 44 ∉ v) (hx : x.cps.toList = joinL (w :: ws)) : Txt.split x (PySem.Str.ofString ", ") = (w :: ws).map strOf := by
  have e2 : (PySem.Str.ofString ", ").length = 2 := by decide +kernel
  obtain ⟨f, hG, hn⟩ := occ_tight x (PySem.Str.ofString ", ") (by rw [e2]; decide)
  have key := parts_join x ws w hw _ 0 f (Nat.zero_le _) hx hG hn
  unfold Txt.split
  have ek : PySem.Builtin.Str.strKind (PySem.Str.ofString ", ") = 1 := by decide +kernel
  have h1 : 1 ≤ PySem.Builtin.Str.strKind x := by unfold PySem.Builtin.Str.strKind; split <;> (try split) <;> omega
  have cc : (decide (x.length < (PySem.Str.ofString ", ").length) || decide (PySem.Builtin.Str.strKind x < PySem.Builtin.Str.strKind (PySem.Str.ofString ", "))) = decide (x.length < 2) := by
    rw [ek, e2]
    have : decide (PySem.Builtin.Str.strKind x < 1) = false := by simp; omega
    rw [this, Bool.or_false]
  rw [cc]
  have em : (occurrences x (PySem.Str.ofString ", ") 0 x.length (x.length + 1)).isEmpty = true → [x] = (w :: ws).map strOf := fun he => by
    have e0 := List.isEmpty_iff.mp he
    rw [e0] at key
    rw [← key]
    show [x] = [strSub x 0 x.length]
    rw [sub_whole]
  by_cases hs : x.length < 2
  · rw [if_pos (by simpa using hs)]
    apply em
    cases hc : occurrences x (PySem.Str.ofString ", ") 0 x.length (x.length + 1) with
    | nil => rfl
    | cons c q =>
      rw [hc] at hG
      have := ((at_sep x c).mp hG.2.1).1
      omega
  · rw [if_neg (by simpa using hs)]
    by_cases he : (occurrences x (PySem.Str.ofString ", ") 0 x.length (x.length + 1)).isEmpty = true
    · rw [if_pos he]; exact em he
    · rw [if_neg he, partsBetween_eq, e2]; exact key
theorem join_joinL : ∀ ws : List (List Nat), Txt.join (PySem.Str.ofString ", ") (ws.map strOf) = strOf (joinL ws) := by
  intro xs
  show Builtin.Str.glued _ _ = _
  rw [StrLaws.glued_eq_join, show PySem.Str.ofString ", " = strOf [44, 32] by decide +kernel]
  induction xs with
  | nil => rfl
  | cons x r ih =>
    cases r with
    | nil => show strOf x = _; rfl
    | cons y r =>
      show strOf x ++ strOf [44, 32] ++ PySem.Str.join (strOf [44, 32]) (List.map strOf (y :: r)) = _
      rw [ih, strOf_append, strOf_append]
      show _ = strOf (x ++ 44 :: 32 :: joinL (y :: r))
      simp
theorem strOf_cps (x : PySem.Str) : strOf x.cps.toList = x := by
  apply Str.ext'; rfl
theorem split_joined (ns : List PySem.Str) (h0 : ns ≠ []) (hn : ∀ x ∈ ns, 44 ∉ x.cps.toList) : Txt.split (Txt.join (PySem.Str.ofString ", ") ns) (PySem.Str.ofString ", ") = ns := by
  have e : ns = (ns.map fun x => x.cps.toList).map strOf := by
    rw [List.map_map]
    conv => lhs; rw [← List.map_id ns]
    apply List.map_congr_left
    intro x _
    exact (strOf_cps x).symm
  cases hc : ns with
  | nil => exact absurd hc h0
  | cons y r =>
    rw [← hc]
    rw [e, join_joinL]
    rw [hc]
    simp only [List.map_cons]
    rw [split_join (strOf _) y.cps.toList (r.map fun x => x.cps.toList) ?_ rfl]
    · simp
    · intro v hv
      rcases List.mem_cons.mp hv with rfl | hv
      · exact hn y (by rw [hc]; exact List.mem_cons_self)
      · obtain ⟨z, hz, rfl⟩ := List.mem_map.mp hv
        exact hn z (by rw [hc]; exact List.mem_cons_of_mem _ hz)
theorem name_free : ∀ q : Nat, q < 16 → 44 ∉ (nameS q).cps.toList := by decide +kernel
theorem joinL_len : ∀ ws : List (List Nat), (joinL ws).length ≤ (ws.map (·.length)).sum + 2 * ws.length
  | [] => by simp [joinL]
  | [w] => by simp [joinL]
  | w :: v :: r => by
    have := joinL_len (v :: r)
    simp only [joinL, List.length_append, List.length_cons, List.map_cons, List.sum_cons] at this ⊢
    omega
theorem join_len (ns : List PySem.Str) : (Txt.join (PySem.Str.ofString ", ") ns).length ≤ (ns.map (·.length)).sum + 2 * ns.length := by
  have e : ns = (ns.map fun x => x.cps.toList).map strOf := by
    rw [List.map_map]
    conv => lhs; rw [← List.map_id ns]
    apply List.map_congr_left
    intro x _
    exact (strOf_cps x).symm
  rw [e, join_joinL, strOf_length]
  have := joinL_len (ns.map fun x => x.cps.toList)
  rw [← e]
  simp only [List.map_map, List.length_map] at this
  have e2 : ((fun x : List Nat => x.length) ∘ fun x : PySem.Str => x.cps.toList) = fun x : PySem.Str => x.length := by
    funext x; simp [PySem.Str.length]
  rw [e2] at this
  exact this
end
section
open PySem PySem.W PyProof.Rows PySem.Calls
theorem apL_ok (F : Nat) (h : F < 65536) : ∀ c ∈ apL F, 65 ≤ c ∧ c < 81 := by
  induction F using Nat.strongRecOn with
  | _ F ih =>
    by_cases h0 : F = 0
    · subst h0; rw [apL_zero]; intro c hc; cases hc
    · rw [apL_pos h0]
      intro c hc
      rcases List.mem_append.mp hc with hc | hc
      · exact ih (F / 16) (by omega) (by omega) c hc
      · have := List.mem_singleton.mp hc
        omega
theorem apL_len (F : Nat) (h : F < 65536) : (apL F).length ≤ 4 := apL_length 4 F h
theorem numL_apL (F : Nat) (h : F < 65536) : numL (apL F) = (F : Int) := by
  induction F using Nat.strongRecOn with
  | _ F ih =>
    by_cases h0 : F = 0
    · subst h0; rw [apL_zero]; rfl
    · rw [apL_pos h0]
      have := ih (F / 16) (by omega) (by omega)
      unfold numL at this ⊢
      rw [List.foldl_append, this]
      show numStep _ _ = _
      unfold numStep
      omega
theorem apL_head65 (F : Nat) (h : F < 65536) : (apL F).take 1 ≠ [65] := by
  induction F using Nat.strongRecOn with
  | _ F ih =>
    by_cases h0 : F = 0
    · subst h0; rw [apL_zero]; simp
    · rw [apL_pos h0]
      by_cases h1 : F / 16 = 0
      · rw [h1, apL_zero]
        simp only [List.nil_append, List.take_succ_cons, List.take_zero]
        intro e
        have := (List.cons.inj e).1
        omega
      · have hne : apL (F / 16) ≠ [] := by rw [apL_pos h1]; simp
        have := ih (F / 16) (by omega) (by omega)
        rw [List.take_append_of_le_length (by have := List.length_pos_iff.mpr hne; omega)]
        exact this
theorem apL_head (F : Nat) (h : F < 65536) : (strOf ((apL F).take 1) == Str.ofString "A") = false := by
  rw [show Str.ofString "A" = strOf [65] by decide +kernel, strOf_beq]
  exact beq_eq_false_iff_ne.mpr (apL_head65 F h)
theorem bitAnd_nat (a b : Nat) : Builtin.bitAnd (a : Int) (b : Int) = ((a &&& b : Nat) : Int) := by
  rw [bitAnd_pp (Int.natCast_nonneg _) (Int.natCast_nonneg _)]
  simp only [Int.toNat_natCast]
theorem bit_test (F q : Nat) : ((F : Int).fdiv (2 ^ ((q : Nat) : Int).toNat)).fmod 2 = 1 ↔ F.testBit q = true := by
  rw [Int.toNat_natCast, Int.fdiv_eq_ediv_of_nonneg _ (by exact_mod_cast Nat.zero_le (2 ^ q)), Int.fmod_eq_emod_of_nonneg _ (by decide), Nat.testBit_eq_decide_div_mod_eq]
  have : ((F : Int) / 2 ^ q) = ((F / 2 ^ q : Nat) : Int) := by push_cast; rfl
  rw [this]
  simp only [decide_eq_true_eq]
  omega
theorem range_pick : ∀ (n : Nat) (ps : List Nat), ps.Pairwise (· < ·) → (∀ q ∈ ps, q < n) → (List.range n).filter (fun x => decide (x ∈ ps)) = ps
  | 0, ps, _, h => by
    cases ps with
    | nil => rfl
    | cons a r => exact absurd (h a List.mem_cons_self) (Nat.not_lt_zero a)
  | n + 1, ps, hp, h => by
    rw [List.range_succ, List.filter_append]
    by_cases hn : n ∈ ps
    · obtain ⟨l, r, e⟩ := List.append_of_mem hn
      subst e
      have hr : r = [] := by
        cases r with
        | nil => rfl
        | cons b r =>
          have h1 := h b (by simp)
          have h2 := (List.pairwise_append.mp hp).2.1
          have := (List.pairwise_cons.mp h2).1 b List.mem_cons_self
          omega
      subst hr
      have hl := (List.pairwise_append.mp hp).1
      have hlt : ∀ q ∈ l, q < n := fun q hq => (List.pairwise_append.mp hp).2.2 q hq n (by simp)
      have ih := range_pick n l hl hlt
      have e1 : (List.range n).filter (fun x => decide (x ∈ l ++ [n])) = (List.range n).filter (fun x => decide (x ∈ l)) := by
        apply List.filter_congr
        intro x hx
        have := List.mem_range.mp hx
        simp only [List.mem_append, List.mem_singleton]
        congr 1
        apply propext
        constructor
        · rintro (a | a)
          · exact a
          · omega
        · exact .inl
      rw [e1, ih]; simp
    · have hlt : ∀ q ∈ ps, q < n := fun q hq => by
        have := h q hq
        have : q ≠ n := fun e => hn (e ▸ hq)
        omega
      rw [range_pick n ps hp hlt]; simp [hn]
theorem bits_places (F : Nat) (ps : List Nat) (hp : ps.Pairwise (· < ·)) (h16 : ∀ q ∈ ps, q < 16) (h : ∀ i, F.testBit i = true → i ∈ ps) : (List.range 16).filter F.testBit = ps.filter F.testBit := by
  conv => rhs; rw [← range_pick 16 ps hp h16]
  rw [List.filter_filter]
  apply List.filter_congr
  intro x _
  by_cases hb : F.testBit x = true
  · simp [hb, h x hb]
  · simp [hb]
noncomputable def toldL (F : Nat) : List Str := if F = 0 then [Str.ofString "0x0"] else namesTo F 16
theorem picked_ne (F : Nat) (ps : List Nat) (h : ∀ i, F.testBit i = true → i ∈ ps) (h0 : F ≠ 0) : ps.filter F.testBit ≠ [] := by
  obtain ⟨i, hi⟩ := Nat.exists_testBit_of_ne_zero h0
  intro e
  have : i ∈ ps.filter F.testBit := List.mem_filter.mpr ⟨h i hi, hi⟩
  rw [e] at this; cases this
theorem told_places (F : Nat) (ps : List Nat) (hp : ps.Pairwise (· < ·)) (h16 : ∀ q ∈ ps, q < 16) (h : ∀ i, F.testBit i = true → i ∈ ps) : toldL F = if (ps.filter F.testBit).map nameS = [] then [Str.ofString "0x0"] else (ps.filter F.testBit).map nameS := by
  unfold toldL
  by_cases h0 : F = 0
  · subst h0
    have e : ps.filter (Nat.testBit 0) = [] := by
      apply List.filter_eq_nil_iff.mpr
      intro a _
      simp
    simp [e]
  · have hne := picked_ne F ps h h0
    rw [if_neg h0, if_neg (by simpa using hne)]
    unfold namesTo
    rw [bits_places F ps hp h16 h]
theorem name_is0x : ∀ p : Nat, p < 16 → (Str.ofString "0x0" == nameS p) = false := by decide +kernel
theorem name_not0x (p : Nat) (h : p < 16) : ([Str.ofString "0x0"].any (· == nameS p)) = false := by
  simp [List.any_cons, name_is0x p h]
theorem toldL_zero (F : Nat) (h : F < 65536) (e : toldL F = [Str.ofString "0x0"]) : F = 0 := by
  unfold toldL at e
  by_cases h0 : F = 0
  · exact h0
  · rw [if_neg h0] at e
    have hm : Str.ofString "0x0" ∈ namesTo F 16 := by rw [e]; exact List.mem_cons_self
    unfold namesTo at hm
    obtain ⟨q, hq, eq⟩ := List.mem_map.mp hm
    have hq16 := List.mem_range.mp (List.mem_filter.mp hq).1
    have := name_is0x q hq16
    rw [eq, beq_self_eq_true] at this; cases this
theorem pretty_size (F : Nat) (_h : F < 65536) : (prettyS F).length + 2 ≤ sizeLine := by
  rw [PySem.sizeLine_eq]
  unfold prettyS
  by_cases h0 : F = 0
  · rw [if_pos h0]; decide +kernel
  · rw [if_neg h0]
    have h1 := join_len (namesTo F 16)
    have h2 := namesTo_weight F 16
    have h3 := namesTo_length F 16
    omega
theorem namesTo_ne (F : Nat) (h : F < 65536) (h0 : F ≠ 0) : namesTo F 16 ≠ [] := by
  obtain ⟨i, hi⟩ := Nat.exists_testBit_of_ne_zero h0
  intro e
  have hi16 : i < 16 := by
    rcases Nat.lt_or_ge i 16 with a | a
    · exact a
    · have := Nat.testBit_lt_two_pow (Nat.lt_of_lt_of_le h (show 65536 ≤ 2 ^ i from Nat.pow_le_pow_right (n := 2) (by decide) a))
      rw [hi] at this; cases this
  have : nameS i ∈ namesTo F 16 := List.mem_map_of_mem (List.mem_filter.mpr ⟨List.mem_range.mpr hi16, hi⟩)
  rw [e] at this; cases this
theorem split_pretty (F : Nat) (h : F < 65536) : Txt.split (prettyS F) (Str.ofString ", ") = toldL F := by
  unfold prettyS toldL
  by_cases h0 : F = 0
  · rw [if_pos h0, if_pos h0]
    have := split_join (Str.ofString "0x0") (Str.ofString "0x0").cps.toList [] (by decide +kernel) rfl
    rw [show (Str.ofString "0x0") = Str.ofString "0x0" from rfl] at this
    simp only [List.map_cons, List.map_nil, strOf_cps] at this
    exact this
  · rw [if_neg h0, if_neg h0]
    refine split_joined _ (namesTo_ne F h h0) fun x hx => ?_
    unfold namesTo at hx
    obtain ⟨q, hq, rfl⟩ := List.mem_map.mp hx
    exact name_free q (List.mem_range.mp (List.mem_filter.mp hq).1)
theorem lay_name : ∀ q : Nat, q < 16 → PyData.canLay0 (.str (nameS q)) = true := by decide +kernel
theorem lay_names (ps : List Nat) (h16 : ∀ q ∈ ps, q < 16) : ∀ x ∈ ps.map nameS, PyData.canLay0 (.str x) = true := fun x hx => by
  obtain ⟨q, hq, rfl⟩ := List.mem_map.mp hx
  exact lay_name q (h16 q hq)
theorem name_inj : ∀ p : Nat, p < 16 → ∀ q : Nat, q < 16 → (nameS p == nameS q) = true → p = q := by decide +kernel
theorem told_any (F : Nat) (ps : List Nat) (h16 : ∀ q ∈ ps, q < 16) (pp : Nat) (hpp : pp ∈ ps) : (((ps.filter F.testBit).map nameS).any (· == nameS pp)) = F.testBit pp := by
  cases hb : F.testBit pp with
  | true =>
    apply List.any_eq_true.mpr
    exact ⟨nameS pp, List.mem_map_of_mem (List.mem_filter.mpr ⟨hpp, hb⟩), beq_self_eq_true _⟩
  | false =>
    apply List.any_eq_false.mpr
    intro x hx he
    obtain ⟨q, hq, rfl⟩ := List.mem_map.mp hx
    have hm := List.mem_filter.mp hq
    have := name_inj q (h16 q hm.1) pp (h16 pp hpp) he
    rw [this, hb] at hm
    cases hm.2
theorem apL_inj {F G : Nat} (hF : F < 65536) (hG : G < 65536) (h : apL F = apL G) : F = G := by
  have h1 := numL_apL F hF
  rw [h, numL_apL G hG] at h1
  omega
theorem words_any (nums : List Nat) (h16 : ∀ F ∈ nums, F < 65536) (G : Nat) (hG : G < 65536) : (((nums.map apL).map strOf).any (· == strOf (apL G))) = decide (G ∈ nums) := by
  by_cases hm : G ∈ nums
  · rw [decide_eq_true hm]
    apply List.any_eq_true.mpr
    exact ⟨strOf (apL G), List.mem_map_of_mem (List.mem_map_of_mem hm), beq_self_eq_true _⟩
  · rw [decide_eq_false hm]
    apply List.any_eq_false.mpr
    intro x hx he
    obtain ⟨y, hy, rfl⟩ := List.mem_map.mp hx
    obtain ⟨F, hF, rfl⟩ := List.mem_map.mp hy
    rw [strOf_beq] at he
    have := apL_inj (h16 F hF) hG (eq_of_beq he)
    exact hm (this ▸ hF)
theorem sub_bit (F p : Nat) (h : F.testBit p = true) : (F : Int) - 2 ^ ((p : Nat) : Int).toNat = ((F - 2 ^ p : Nat) : Int) := by
  have := Nat.ge_two_pow_of_testBit h
  rw [Int.toNat_natCast]
  have e : ((2 : Int) ^ p) = ((2 ^ p : Nat) : Int) := by push_cast; rfl
  rw [e]
  omega
end
section
open PySem PySem.W PyProof.Rows PySem.Calls
/-! the bits of a number: with and without one place -/
theorem xor_even (x y : Nat) (hy : y % 2 = 0) : (x ^^^ y) % 2 = x % 2 := by
  have h := Nat.testBit_xor x y 0
  simp only [Nat.testBit_zero] at h
  have e : decide (y % 2 = 1) = false := decide_eq_false (by omega)
  rw [e, Bool.xor_false] at h
  have h2 : ((x ^^^ y) % 2 = 1) ↔ (x % 2 = 1) := by
    constructor
    · intro a; rw [decide_eq_true a] at h; exact of_decide_eq_true h.symm
    · intro a; rw [decide_eq_true a] at h; exact of_decide_eq_true h
  omega
theorem xor_one (x : Nat) (hx : x % 2 = 0) : (x ^^^ 1) % 2 = 1 := by
  have h := Nat.testBit_xor x 1 0
  simp only [Nat.testBit_zero] at h
  have e : decide (x % 2 = 1) = false := decide_eq_false (by omega)
  rw [e] at h
  exact of_decide_eq_true h
theorem add_bit : ∀ (p x : Nat), x.testBit p = false → x + 2 ^ p = x ^^^ 2 ^ p
  | 0, x, h => by
    rw [Nat.testBit_zero, decide_eq_false_iff_not] at h
    have h1 : (x ^^^ 1) / 2 = x / 2 := by rw [Nat.xor_div_two]; simp
    have h2 := xor_one x (by omega)
    show x + 1 = x ^^^ 1
    omega
  | p + 1, x, h => by
    have h1 : (x ^^^ 2 ^ (p + 1)) / 2 = x / 2 ^^^ 2 ^ p := by
      rw [Nat.xor_div_two]; congr 1
      rw [Nat.pow_succ]; omega
    have h2 := xor_even x (2 ^ (p + 1)) (by rw [Nat.pow_succ]; omega)
    have h3 : (x / 2).testBit p = false := by rw [Nat.testBit_succ] at h; exact h
    rw [← add_bit p (x / 2) h3] at h1
    rw [Nat.pow_succ] at h1 h2 ⊢
    omega
theorem flip_flip (x p : Nat) : (x ^^^ 2 ^ p) ^^^ 2 ^ p = x := by rw [Nat.xor_assoc, Nat.xor_self, Nat.xor_zero]
theorem flip_bit (x p : Nat) : (x ^^^ 2 ^ p).testBit p = !x.testBit p := by
  rw [Nat.testBit_xor, Nat.testBit_two_pow_self]; simp
theorem flip_other (x : Nat) {p q : Nat} (h : p ≠ q) : (x ^^^ 2 ^ p).testBit q = x.testBit q := by
  rw [Nat.testBit_xor, Nat.testBit_two_pow_of_ne h]; simp
theorem flip_comm (x p q : Nat) : (x ^^^ 2 ^ p) ^^^ 2 ^ q = (x ^^^ 2 ^ q) ^^^ 2 ^ p := by
  rw [Nat.xor_assoc, Nat.xor_comm (2 ^ p), ← Nat.xor_assoc]
theorem sub_flip (x p : Nat) (h : x.testBit p = true) : x - 2 ^ p = x ^^^ 2 ^ p := by
  have h1 : (x ^^^ 2 ^ p).testBit p = false := by rw [flip_bit, h]; rfl
  have := add_bit p _ h1
  rw [flip_flip] at this
  omega
/-! one round: a place is taken away where that word is not in line -/
noncomputable def downF (p : Nat) (R : List Nat) (F : Nat) : Nat := if F.testBit p = true ∧ F - 2 ^ p ∉ R then F - 2 ^ p else F
noncomputable def shiftL (p : Nat) (R : List Nat) : List Nat := R.map (downF p R)
noncomputable def shiftAll (os : List Nat) (R : List Nat) : List Nat := os.foldl (fun R p => shiftL p R) R
theorem downF_flip (p : Nat) (R : List Nat) (F : Nat) : downF p R F = if F.testBit p = true ∧ F ^^^ 2 ^ p ∉ R then F ^^^ 2 ^ p else F := by
  unfold downF
  cases hb : F.testBit p with
  | true => rw [sub_flip F p hb]
  | false => simp
noncomputable def Sh (p : Nat) (P : Nat → Prop) (x : Nat) : Prop := if x.testBit p = true then P x ∧ P (x ^^^ 2 ^ p) else P x ∨ P (x ^^^ 2 ^ p)
noncomputable def ShAll (os : List Nat) (P : Nat → Prop) : Nat → Prop := os.foldl (fun P p => Sh p P) P
theorem mem_shift (p : Nat) (R : List Nat) (x : Nat) : x ∈ shiftL p R ↔ Sh p (· ∈ R) x := by
  unfold shiftL Sh
  rw [List.mem_map]
  constructor
  · rintro ⟨F, hF, rfl⟩
    rw [downF_flip]
    by_cases hc : F.testBit p = true ∧ F ^^^ 2 ^ p ∉ R
    · rw [if_pos hc, flip_bit, hc.1, flip_flip]
      simp only [Bool.not_true, Bool.false_eq_true, if_false]
      exact .inr hF
    · rw [if_neg hc]
      by_cases hb : F.testBit p = true
      · rw [if_pos hb]
        exact ⟨hF, Classical.byContradiction fun h => hc ⟨hb, h⟩⟩
      · rw [if_neg hb]; exact .inl hF
  · intro h
    by_cases hb : x.testBit p = true
    · rw [if_pos hb] at h
      exact ⟨x, h.1, by rw [downF_flip, if_neg (fun hc => hc.2 h.2)]⟩
    · rw [if_neg hb] at h
      by_cases hx : x ∈ R
      · exact ⟨x, hx, by rw [downF_flip, if_neg (fun hc => hb hc.1)]⟩
      · have h2 := h.resolve_left hx
        refine ⟨x ^^^ 2 ^ p, h2, ?_⟩
        rw [downF_flip, flip_flip, if_pos ⟨by rw [flip_bit]; simpa using hb, hx⟩]
theorem shift_length (p : Nat) (R : List Nat) : (shiftL p R).length = R.length := List.length_map _
theorem shift_nodup (p : Nat) (R : List Nat) (h : R.Nodup) : (shiftL p R).Nodup := by
  unfold shiftL List.Nodup
  rw [List.pairwise_map]
  refine List.Pairwise.imp_of_mem (R := (· ≠ ·)) ?_ h
  intro a b ha hb hne e
  rw [downF_flip, downF_flip] at e
  split at e <;> split at e <;> rename_i h1 h2
  · exact hne (by rw [← flip_flip a p, e, flip_flip])
  · exact h1.2 (e ▸ hb)
  · exact h2.2 (e ▸ ha)
  · exact hne e
theorem downF_sub (p : Nat) (R : List Nat) (F : Nat) : downF p R F &&& F = downF p R F := by
  rw [downF_flip]
  split
  · rename_i h
    apply Nat.eq_of_testBit_eq
    intro i
    rw [Nat.testBit_and]
    by_cases e : p = i
    · subst e; rw [flip_bit, h.1]; rfl
    · rw [flip_other F e]; simp
  · exact Nat.and_self F
theorem sub_trans {a b c : Nat} (h1 : a &&& b = a) (h2 : b &&& c = b) : a &&& c = a := by
  conv => lhs; rw [← h1, Nat.and_assoc, h2]
  exact h1
theorem sub_bits {a b : Nat} (h : a &&& b = a) {i : Nat} (hi : a.testBit i = true) : b.testBit i = true := by
  rw [← h, Nat.testBit_and, Bool.and_eq_true] at hi
  exact hi.2
theorem sub_le {a b : Nat} (h : a &&& b = a) : a ≤ b := by rw [← h]; exact Nat.and_le_right
/-- what stays so from round to round -/
structure Kept (ps ms R : List Nat) : Prop where
  len : R.length = ms.length
  nodup : R.Nodup
  part : ∀ (i F M : Nat), R[i]? = some F → ms[i]? = some M → F &&& M = F
theorem Kept.start {ps ms : List Nat} (h : ms.Nodup) : Kept ps ms ms := ⟨rfl, h, fun i F M hF hM => by rw [hF] at hM; cases hM; exact Nat.and_self F⟩
theorem Kept.shift {ps ms R : List Nat} (k : Kept ps ms R) (p : Nat) : Kept ps ms (shiftL p R) := by
  refine ⟨by rw [shift_length]; exact k.len, shift_nodup p R k.nodup, fun i F M hF hM => ?_⟩
  unfold shiftL at hF
  rw [List.getElem?_map] at hF
  cases hc : R[i]? with
  | none => rw [hc] at hF; cases hF
  | some G =>
    rw [hc] at hF
    obtain rfl := Option.some.inj hF
    exact sub_trans (downF_sub p R G) (k.part i G M hc hM)
theorem Kept.all {ps ms : List Nat} : ∀ (os R : List Nat), Kept ps ms R → Kept ps ms (shiftAll os R)
  | [], _, k => k
  | p :: r, R, k => Kept.all r (shiftL p R) (k.shift p)
theorem Kept.bits {ps ms R : List Nat} (k : Kept ps ms R) (hms : ∀ M ∈ ms, ∀ i, M.testBit i = true → i ∈ ps) : ∀ F ∈ R, ∀ i, F.testBit i = true → i ∈ ps := by
  intro F hF i hi
  obtain ⟨j, hj⟩ := List.getElem?_of_mem hF
  have hl : j < ms.length := by rw [← k.len]; exact (List.getElem?_eq_some_iff.mp hj).1
  have hM : ms[j]? = some ms[j] := List.getElem?_eq_getElem hl
  exact hms _ (List.getElem_mem hl) i (sub_bits (k.part j F _ hj hM) hi)
theorem Kept.small {ps ms R : List Nat} (k : Kept ps ms R) (hms : ∀ M ∈ ms, M < 65536) : ∀ F ∈ R, F < 65536 := by
  intro F hF
  obtain ⟨j, hj⟩ := List.getElem?_of_mem hF
  have hl : j < ms.length := by rw [← k.len]; exact (List.getElem?_eq_some_iff.mp hj).1
  have hM : ms[j]? = some ms[j] := List.getElem?_eq_getElem hl
  exact Nat.lt_of_le_of_lt (sub_le (k.part j F _ hj hM)) (hms _ (List.getElem_mem hl))
/-! shattering -/
noncomputable def Shat (P : Nat → Prop) (X : Nat) : Prop := ∀ S, S &&& X = S → ∃ m, P m ∧ m &&& X = S
theorem and_flip_out (m X p : Nat) (h : X.testBit p = false) : (m ^^^ 2 ^ p) &&& X = m &&& X := by
  apply Nat.eq_of_testBit_eq
  intro i
  rw [Nat.testBit_and, Nat.testBit_and]
  by_cases e : p = i
  · subst e; rw [h]; simp
  · rw [flip_other m e]
theorem and_flip_in (m X p : Nat) (h : X.testBit p = true) : (m ^^^ 2 ^ p) &&& X = (m &&& X) ^^^ 2 ^ p := by
  apply Nat.eq_of_testBit_eq
  intro i
  by_cases e : p = i
  · subst e; rw [Nat.testBit_and, flip_bit, flip_bit, Nat.testBit_and, h]; simp
  · rw [Nat.testBit_and, flip_other m e, flip_other _ e, Nat.testBit_and]
theorem Shat.back {P : Nat → Prop} {p X : Nat} (h : Shat (Sh p P) X) : Shat P X := by
  intro S hS
  by_cases hX : X.testBit p = true
  · have key : ∀ T, T &&& X = T → T.testBit p = true → (∃ m, P m ∧ m &&& X = T) ∧ ∃ m, P m ∧ m &&& X = T ^^^ 2 ^ p := by
      intro T hT hb
      obtain ⟨m, hm, e⟩ := h T hT
      have hmb : m.testBit p = true := by rw [← e, Nat.testBit_and, Bool.and_eq_true] at hb; exact hb.1
      unfold Sh at hm
      rw [if_pos hmb] at hm
      exact ⟨⟨m, hm.1, e⟩, _, hm.2, by rw [and_flip_in m X p hX, e]⟩
    by_cases hb : S.testBit p = true
    · exact (key S hS hb).1
    · have hT : (S ^^^ 2 ^ p) &&& X = S ^^^ 2 ^ p := by rw [and_flip_in S X p hX, hS]
      have := (key (S ^^^ 2 ^ p) hT (by rw [flip_bit]; simpa using hb)).2
      rw [flip_flip] at this
      exact this
  · obtain ⟨m, hm, e⟩ := h S hS
    have hX' : X.testBit p = false := by simpa using hX
    unfold Sh at hm
    split at hm
    · exact ⟨m, hm.1, e⟩
    · rcases hm with hm | hm
      · exact ⟨m, hm, e⟩
      · exact ⟨_, hm, by rw [and_flip_out m X p hX', e]⟩
theorem Shat.backAll {X : Nat} : ∀ (os : List Nat) (P : Nat → Prop), Shat (ShAll os P) X → Shat P X
  | [], _, h => h
  | p :: r, P, h => (Shat.backAll r (Sh p P) h).back
noncomputable def Down (p : Nat) (P : Nat → Prop) : Prop := ∀ x, x.testBit p = true → P x → P (x ^^^ 2 ^ p)
theorem Down.now (p : Nat) (P : Nat → Prop) : Down p (Sh p P) := by
  intro x hb hx
  unfold Sh at hx ⊢
  rw [if_pos hb] at hx
  rw [if_neg (by rw [flip_bit, hb]; simp)]
  exact .inl hx.2
theorem Down.stay {p q : Nat} {P : Nat → Prop} (hne : p ≠ q) (h : Down q P) : Down q (Sh p P) := by
  intro x hb hx
  unfold Sh at hx ⊢
  have hb2 : (x ^^^ 2 ^ p).testBit q = true := by rw [flip_other x hne]; exact hb
  rw [flip_other x (Ne.symm hne), flip_comm x q p]
  split
  · rename_i h1
    rw [if_pos h1] at hx
    exact ⟨h x hb hx.1, h _ hb2 hx.2⟩
  · rename_i h1
    rw [if_neg h1] at hx
    exact hx.elim (fun a => .inl (h x hb a)) (fun a => .inr (h _ hb2 a))
theorem Down.allStay {q : Nat} : ∀ (os : List Nat) (P : Nat → Prop), q ∉ os → Down q P → Down q (ShAll os P)
  | [], _, _, h => h
  | p :: r, P, hn, h => Down.allStay r (Sh p P) (fun hm => hn (List.mem_cons_of_mem _ hm)) (Down.stay (fun e => hn (e ▸ List.mem_cons_self)) h)
theorem Down.all {q : Nat} : ∀ (os : List Nat) (P : Nat → Prop), os.Nodup → q ∈ os → Down q (ShAll os P)
  | p :: r, P, hd, hq => by
    have hp := (List.nodup_cons.mp hd)
    by_cases e : q = p
    · subst e; exact Down.allStay r (Sh q P) hp.1 (Down.now q P)
    · exact Down.all r (Sh p P) hp.2 ((List.mem_cons.mp hq).resolve_left e)
theorem down_subs {P : Nat → Prop} (ps : List Nat) (hd : ∀ p ∈ ps, Down p P) : ∀ (X : Nat), P X → (∀ i, X.testBit i = true → i ∈ ps) → ∀ S, S &&& X = S → P S := by
  intro X
  induction X using Nat.strongRecOn with
  | _ X ih =>
    intro hX hb S hS
    by_cases e : S = X
    · rw [e]; exact hX
    · obtain ⟨i, hi⟩ : ∃ i, X.testBit i = true ∧ S.testBit i = false := by
        apply Classical.byContradiction
        intro hno
        apply e
        apply Nat.eq_of_testBit_eq
        intro i
        cases h1 : S.testBit i with
        | true => exact (sub_bits hS h1).symm
        | false =>
          cases h2 : X.testBit i with
          | true => exact absurd ⟨i, h2, h1⟩ hno
          | false => rfl
      have hlt : X ^^^ 2 ^ i < X := by
        rw [← sub_flip X i hi.1]
        have h1 := Nat.ge_two_pow_of_testBit hi.1
        have h2 : 0 < 2 ^ i := Nat.two_pow_pos i
        omega
      refine ih _ hlt (hd i (hb i hi.1) X hi.1 hX) (fun j hj => ?_) S ?_
      · by_cases e2 : i = j
        · subst e2; rw [flip_bit, hi.1] at hj; cases hj
        · rw [flip_other X e2] at hj; exact hb j hj
      · apply Nat.eq_of_testBit_eq
        intro j
        rw [Nat.testBit_and]
        by_cases e2 : i = j
        · subst e2; rw [hi.2]; rfl
        · rw [flip_other X e2, ← Nat.testBit_and, hS]
theorem ShAll_congr : ∀ (os : List Nat) (P P' : Nat → Prop), (∀ x, P x ↔ P' x) → ∀ x, ShAll os P x ↔ ShAll os P' x
  | [], _, _, h, x => h x
  | p :: r, P, P', h, x => ShAll_congr r (Sh p P) (Sh p P') (fun y => by unfold Sh; rw [h y, h (y ^^^ 2 ^ p)]) x
theorem mem_shiftAll : ∀ (os R : List Nat) (x : Nat), x ∈ shiftAll os R ↔ ShAll os (· ∈ R) x
  | [], _, _ => Iff.rfl
  | p :: r, R, x => (mem_shiftAll r (shiftL p R) x).trans (ShAll_congr r _ _ (mem_shift p R) x)
/-- each word that is left at the end is shown whole by the drawn sets -/
theorem shown_whole (ps os ms : List Nat) (hnd : os.Nodup) (hop : ∀ p, p ∈ ps → p ∈ os) (hms : ∀ M ∈ ms, ∀ i, M.testBit i = true → i ∈ ps) (hm0 : ms.Nodup) (X : Nat) (hX : X ∈ shiftAll os ms) :
    ∀ S, S &&& X = S → ∃ m ∈ ms, m &&& X = S := by
  have hbits := (Kept.all os ms (Kept.start (ps := ps) hm0)).bits hms X hX
  have hP := (mem_shiftAll os ms X).mp hX
  have hall := down_subs ps (fun p hp => Down.all os (· ∈ ms) hnd (hop p hp)) X hP hbits
  exact Shat.backAll os (· ∈ ms) (fun S hS => ⟨S, hall S hS, hS⟩)
/-! the finder's sets -/
noncomputable def wonR : List Nat → List Nat → List Nat
  | [], sets => sets
  | p :: r, sets => if sets = [] then sets else
    let off := wonR r (sets.filter fun x => !x.testBit p)
    let on := wonR r ((sets.filter fun x => x.testBit p).map (· - 2 ^ p))
    off ++ (on.filter fun x => decide (x ∉ off)) ++ ((on.filter fun x => decide (x ∈ off)).map (· + 2 ^ p))
theorem ShAll_snoc (os : List Nat) (p : Nat) (P : Nat → Prop) : ShAll (os ++ [p]) P = Sh p (ShAll os P) := by
  unfold ShAll; rw [List.foldl_append]; rfl
theorem Sh_off {p q : Nat} (hne : q ≠ p) (P : Nat → Prop) (x : Nat) : Sh q (fun y => P y ∧ y.testBit p = false) x ↔ Sh q P x ∧ x.testBit p = false := by
  unfold Sh
  dsimp only
  rw [flip_other x hne]
  split
  · constructor
    · rintro ⟨⟨a, b⟩, c, d⟩; exact ⟨⟨a, c⟩, b⟩
    · rintro ⟨⟨a, c⟩, b⟩; exact ⟨⟨a, b⟩, c, b⟩
  · constructor
    · rintro (⟨a, b⟩ | ⟨a, b⟩)
      · exact ⟨.inl a, b⟩
      · exact ⟨.inr a, b⟩
    · rintro ⟨a | a, b⟩
      · exact .inl ⟨a, b⟩
      · exact .inr ⟨a, b⟩
theorem Sh_on {p q : Nat} (hne : q ≠ p) (P : Nat → Prop) (x : Nat) : Sh q (fun y => P (y ^^^ 2 ^ p) ∧ y.testBit p = false) x ↔ Sh q P (x ^^^ 2 ^ p) ∧ x.testBit p = false := by
  rw [Sh_off hne (fun y => P (y ^^^ 2 ^ p)) x]
  unfold Sh
  dsimp only
  rw [flip_other x (Ne.symm hne), flip_comm x q p]
theorem ShAll_off {p : Nat} : ∀ (os : List Nat), p ∉ os → ∀ (P : Nat → Prop) (x : Nat), ShAll os (fun y => P y ∧ y.testBit p = false) x ↔ ShAll os P x ∧ x.testBit p = false
  | [], _, _, _ => Iff.rfl
  | q :: r, hn, P, x => by
    have hne : q ≠ p := fun e => hn (e ▸ List.mem_cons_self)
    exact (ShAll_congr r _ _ (Sh_off hne P) x).trans (ShAll_off r (fun h => hn (List.mem_cons_of_mem _ h)) (Sh q P) x)
theorem ShAll_on {p : Nat} : ∀ (os : List Nat), p ∉ os → ∀ (P : Nat → Prop) (x : Nat), ShAll os (fun y => P (y ^^^ 2 ^ p) ∧ y.testBit p = false) x ↔ ShAll os P (x ^^^ 2 ^ p) ∧ x.testBit p = false
  | [], _, _, _ => Iff.rfl
  | q :: r, hn, P, x => by
    have hne : q ≠ p := fun e => hn (e ▸ List.mem_cons_self)
    exact (ShAll_congr r _ _ (Sh_on hne P) x).trans (ShAll_on r (fun h => hn (List.mem_cons_of_mem _ h)) (Sh q P) x)
theorem mem_off (sets : List Nat) (p x : Nat) : (x ∈ sets.filter fun x => !x.testBit p) ↔ (x ∈ sets ∧ x.testBit p = false) := by
  rw [List.mem_filter]; simp
theorem mem_on (sets : List Nat) (p x : Nat) : (x ∈ (sets.filter fun x => x.testBit p).map (· - 2 ^ p)) ↔ (x ^^^ 2 ^ p ∈ sets ∧ x.testBit p = false) := by
  rw [List.mem_map]
  constructor
  · rintro ⟨y, hy, rfl⟩
    have := List.mem_filter.mp hy
    rw [sub_flip y p this.2, flip_flip, flip_bit, this.2]
    exact ⟨this.1, rfl⟩
  · rintro ⟨h1, h2⟩
    have hb : (x ^^^ 2 ^ p).testBit p = true := by rw [flip_bit, h2]; rfl
    exact ⟨x ^^^ 2 ^ p, List.mem_filter.mpr ⟨h1, hb⟩, by rw [sub_flip _ p hb, flip_flip]⟩
theorem ShAll_none : ∀ (os : List Nat) (x : Nat), ¬ ShAll os (fun _ => False) x
  | [], _ => id
  | p :: r, x => fun h => ShAll_none r x ((ShAll_congr r (Sh p fun _ => False) (fun _ => False) (fun y => by unfold Sh; split <;> simp) x).mp h)
theorem mem_won : ∀ (r sets : List Nat), r.Nodup → ∀ x, x ∈ wonR r sets ↔ ShAll r.reverse (· ∈ sets) x
  | [], _, _, _ => Iff.rfl
  | p :: r, sets, hd, x => by
    have hd' := List.nodup_cons.mp hd
    rw [List.reverse_cons, ShAll_snoc]
    have hnr : p ∉ r.reverse := fun h => hd'.1 (List.mem_reverse.mp h)
    unfold wonR
    by_cases h0 : sets = []
    · rw [if_pos h0, h0]
      refine ⟨fun h => (by cases h), fun h => ?_⟩
      exfalso
      have hh : ∀ y, ¬ ShAll r.reverse (· ∈ ([] : List Nat)) y := fun y hy => ShAll_none r.reverse y ((ShAll_congr r.reverse _ (fun _ => False) (fun z => by simp) y).mp hy)
      unfold Sh at h
      split at h
      · exact hh _ h.1
      · exact h.elim (hh _) (hh _)
    · rw [if_neg h0]
      have ioff : ∀ y, y ∈ wonR r (sets.filter fun x => !x.testBit p) ↔ ShAll r.reverse (· ∈ sets) y ∧ y.testBit p = false := fun y =>
        ((mem_won r _ hd'.2 y).trans (ShAll_congr r.reverse _ _ (mem_off sets p) y)).trans (ShAll_off r.reverse hnr (· ∈ sets) y)
      have ion : ∀ y, y ∈ wonR r ((sets.filter fun x => x.testBit p).map (· - 2 ^ p)) ↔ ShAll r.reverse (· ∈ sets) (y ^^^ 2 ^ p) ∧ y.testBit p = false := fun y =>
        ((mem_won r _ hd'.2 y).trans (ShAll_congr r.reverse _ _ (mem_on sets p) y)).trans (ShAll_on r.reverse hnr (· ∈ sets) y)
      generalize wonR r (sets.filter fun x => !x.testBit p) = off at ioff
      generalize wonR r ((sets.filter fun x => x.testBit p).map (· - 2 ^ p)) = on at ion
      dsimp only
      simp only [List.mem_append, List.mem_filter, List.mem_map, decide_eq_true_eq]
      unfold Sh
      cases hb : x.testBit p with
      | true =>
        rw [if_pos rfl]
        constructor
        · rintro ((h | ⟨h, _⟩) | ⟨z, ⟨h1, h2⟩, rfl⟩)
          · rw [(ioff x).mp h |>.2] at hb; cases hb
          · rw [(ion x).mp h |>.2] at hb; cases hb
          · have e := (ion z).mp h1
            have e2 := (ioff z).mp h2
            rw [add_bit p z e.2, flip_flip]
            exact ⟨e.1, e2.1⟩
        · rintro ⟨h1, h2⟩
          have hb2 : (x ^^^ 2 ^ p).testBit p = false := by rw [flip_bit, hb]; rfl
          refine .inr ⟨x ^^^ 2 ^ p, ⟨(ion _).mpr ⟨by rw [flip_flip]; exact h1, hb2⟩, (ioff _).mpr ⟨h2, hb2⟩⟩, ?_⟩
          rw [add_bit p _ hb2, flip_flip]
      | false =>
        rw [if_neg (by simp)]
        constructor
        · rintro ((h | ⟨h, _⟩) | ⟨z, ⟨h1, h2⟩, rfl⟩)
          · exact .inl ((ioff x).mp h).1
          · exact .inr ((ion x).mp h).1
          · have e := (ion z).mp h1
            rw [add_bit p z e.2, flip_bit, e.2] at hb; cases hb
        · intro h
          by_cases ho : x ∈ off
          · exact .inl (.inl ho)
          · rcases h with h | h
            · exact absurd ((ioff x).mpr ⟨h, hb⟩) ho
            · exact .inl (.inr ⟨(ion x).mpr ⟨h, hb⟩, ho⟩)
theorem nodup_won : ∀ (r sets : List Nat), r.Nodup → sets.Nodup → (wonR r sets).Nodup
  | [], _, _, h => h
  | p :: r, sets, hd, h => by
    have hd' := List.nodup_cons.mp hd
    have hnr : p ∉ r.reverse := fun h => hd'.1 (List.mem_reverse.mp h)
    unfold wonR
    by_cases h0 : sets = []
    · rw [if_pos h0]; exact h
    · rw [if_neg h0]
      have loff : ∀ y, y ∈ wonR r (sets.filter fun x => !x.testBit p) → y.testBit p = false := fun y hy =>
        ((ShAll_off r.reverse hnr (· ∈ sets) y).mp ((ShAll_congr r.reverse _ _ (mem_off sets p) y).mp ((mem_won r _ hd'.2 y).mp hy))).2
      have lon : ∀ y, y ∈ wonR r ((sets.filter fun x => x.testBit p).map (· - 2 ^ p)) → y.testBit p = false := fun y hy =>
        ((ShAll_on r.reverse hnr (· ∈ sets) y).mp ((ShAll_congr r.reverse _ _ (mem_on sets p) y).mp ((mem_won r _ hd'.2 y).mp hy))).2
      have noff := nodup_won r (sets.filter fun x => !x.testBit p) hd'.2 (h.filter _)
      have non := nodup_won r ((sets.filter fun x => x.testBit p).map (· - 2 ^ p)) hd'.2 (by
        unfold List.Nodup
        rw [List.pairwise_map]
        refine List.Pairwise.imp_of_mem (R := (· ≠ ·)) ?_ (h.filter _)
        intro a b ha hb hne e
        have ha' := (List.mem_filter.mp ha).2
        have hb' := (List.mem_filter.mp hb).2
        rw [sub_flip a p ha', sub_flip b p hb'] at e
        exact hne (by rw [← flip_flip a p, e, flip_flip]))
      generalize wonR r (sets.filter fun x => !x.testBit p) = off at loff noff
      generalize wonR r ((sets.filter fun x => x.testBit p).map (· - 2 ^ p)) = on at lon non
      dsimp only
      rw [List.nodup_append, List.nodup_append]
      refine ⟨⟨noff, non.filter _, fun a ha b hb e => ?_⟩, ?_, fun a ha b hb e => ?_⟩
      · have := (List.mem_filter.mp hb).2
        rw [decide_eq_true_eq] at this
        exact this (e ▸ ha)
      · unfold List.Nodup
        rw [List.pairwise_map]
        refine List.Pairwise.imp (R := (· ≠ ·)) ?_ (non.filter _)
        intro a b hne e
        exact hne (by omega)
      · obtain ⟨z, hz, rfl⟩ := List.mem_map.mp hb
        have hz' := lon z (List.mem_filter.mp hz).1
        have hab : a.testBit p = false := by
          rcases List.mem_append.mp ha with ha | ha
          · exact loff a ha
          · exact lon a (List.mem_filter.mp ha).1
        rw [e, add_bit p z hz', flip_bit, hz'] at hab
        cases hab
theorem left_won (os ms : List Nat) (hos : os.Nodup) (hms : ms.Nodup) : (shiftAll os ms).Perm (wonR os.reverse ms) := by
  have hr : os.reverse.Nodup := by
    have := List.reverse_perm os
    exact this.nodup_iff.mpr hos
  refine (List.perm_ext_iff_of_nodup (Kept.all (ps := []) os ms (Kept.start hms)).nodup (nodup_won _ _ hr hms)).mpr fun x => ?_
  rw [mem_shiftAll, mem_won _ _ hr, List.reverse_reverse]
theorem sorted_same {a b a' b' : List Int} (h : a.Perm b) (ha : a'.Perm a) (hb : b'.Perm b) (sa : a'.Pairwise (· ≤ ·)) (sb : b'.Pairwise (· ≤ ·)) : a' = b' :=
  List.Perm.eq_of_pairwise (fun _ _ _ _ h1 h2 => Int.le_antisymm h1 h2) sa sb ((ha.trans h).trans hb.symm)
end
section
open PySem PySem.W PyProof.Rows PySem.Calls
noncomputable def subsStep (X : Nat) (acc : List Nat) (p : Nat) : List Nat := if X.testBit p = true then acc ++ acc.map (· + 2 ^ p) else acc
noncomputable def subsL (ps : List Nat) (X : Nat) : List Nat := ps.foldl (subsStep X) [0]
noncomputable def chStep (X : Nat) (acc : List (List Str)) (p : Nat) : List (List Str) := if X.testBit p = true then acc ++ acc.map (· ++ [nameS p]) else acc
noncomputable def chL (ps : List Nat) (X : Nat) : List (List Str) := ps.foldl (chStep X) [[]]
noncomputable def shownS (c : List Str) : Str := Txt.join (Str.ofString ", ") (if c = [] then [Str.ofString "0x0"] else c)
structure Subs (X : Nat) (done acc : List Nat) : Prop where
  rise : acc.Pairwise (· < ·)
  mem : ∀ s, s ∈ acc ↔ s &&& X = s ∧ ∀ i, s.testBit i = true → i ∈ done
theorem low_bit {s p : Nat} (h : s < 2 ^ p) : s.testBit p = false := Nat.testBit_lt_two_pow h
theorem Subs.step {X p : Nat} {done acc : List Nat} (k : Subs X done acc) (hlt : ∀ s ∈ acc, s < 2 ^ p) : Subs X (done ++ [p]) (subsStep X acc p) := by
  unfold subsStep
  by_cases hb : X.testBit p = true
  · rw [if_pos hb]
    refine ⟨?_, fun s => ?_⟩
    · rw [List.pairwise_append]
      refine ⟨k.rise, ?_, fun a ha b hb => ?_⟩
      · rw [List.pairwise_map]
        exact k.rise.imp fun h => by omega
      · obtain ⟨c, _, rfl⟩ := List.mem_map.mp hb
        have := hlt a ha
        omega
    · rw [List.mem_append, List.mem_map]
      constructor
      · rintro (h | ⟨t, ht, rfl⟩)
        · exact ⟨((k.mem s).mp h).1, fun i hi => List.mem_append_left _ (((k.mem s).mp h).2 i hi)⟩
        · have e := (k.mem t).mp ht
          have hl := low_bit (hlt t ht)
          rw [add_bit p t hl]
          refine ⟨by rw [and_flip_in t X p hb, e.1], fun i hi => ?_⟩
          by_cases e2 : p = i
          · subst e2; simp
          · rw [flip_other t e2] at hi; exact List.mem_append_left _ (e.2 i hi)
      · rintro ⟨h1, h2⟩
        cases hs : s.testBit p with
        | false =>
          refine .inl ((k.mem s).mpr ⟨h1, fun i hi => ?_⟩)
          rcases List.mem_append.mp (h2 i hi) with h | h
          · exact h
          · rw [List.mem_singleton.mp h, hs] at hi; cases hi
        | true =>
          have ht : s ^^^ 2 ^ p ∈ acc := (k.mem _).mpr ⟨by rw [and_flip_in s X p hb, h1], fun i hi => by
            by_cases e2 : p = i
            · subst e2; rw [flip_bit, hs] at hi; cases hi
            · rw [flip_other s e2] at hi
              rcases List.mem_append.mp (h2 i hi) with h | h
              · exact h
              · exact absurd (List.mem_singleton.mp h).symm e2⟩
          refine .inr ⟨_, ht, ?_⟩
          rw [add_bit p _ (by rw [flip_bit, hs]; rfl), flip_flip]
  · rw [if_neg hb]
    refine ⟨k.rise, fun s => (k.mem s).trans ⟨fun h => ⟨h.1, fun i hi => List.mem_append_left _ (h.2 i hi)⟩, fun h => ⟨h.1, fun i hi => ?_⟩⟩⟩
    rcases List.mem_append.mp (h.2 i hi) with h3 | h3
    · exact h3
    · rw [List.mem_singleton.mp h3] at hi; exact absurd (sub_bits h.1 hi) hb
theorem step_lt {X p q : Nat} {acc : List Nat} (hlt : ∀ s ∈ acc, s < 2 ^ p) (hpq : p < q) : ∀ s ∈ subsStep X acc p, s < 2 ^ q := by
  intro s hs
  have h1 : 2 ^ (p + 1) ≤ 2 ^ q := Nat.pow_le_pow_right (by decide) hpq
  rw [Nat.pow_succ] at h1
  unfold subsStep at hs
  split at hs
  · rcases List.mem_append.mp hs with h | h
    · have := hlt s h; omega
    · obtain ⟨t, ht, rfl⟩ := List.mem_map.mp h
      have := hlt t ht
      omega
  · have := hlt s hs; omega
theorem subs_fold {X : Nat} : ∀ (ps done acc : List Nat), ps.Pairwise (· < ·) → (∀ q ∈ ps, ∀ s ∈ acc, s < 2 ^ q) → Subs X done acc → Subs X (done ++ ps) (ps.foldl (subsStep X) acc)
  | [], done, acc, _, _, k => by rw [List.append_nil]; exact k
  | p :: r, done, acc, hp, hlt, k => by
    have hp' := List.pairwise_cons.mp hp
    have hl := hlt p List.mem_cons_self
    have := subs_fold r (done ++ [p]) (subsStep X acc p) hp'.2 (fun q hq => step_lt hl (hp'.1 q hq)) (k.step hl)
    rw [List.append_assoc] at this
    exact this
theorem subs_all (ps : List Nat) (hp : ps.Pairwise (· < ·)) (X : Nat) : Subs X ps (subsL ps X) := by
  have k0 : Subs X [] [0] := by
    refine ⟨List.pairwise_singleton _ _, fun s => ?_⟩
    rw [List.mem_singleton]
    constructor
    · rintro rfl; exact ⟨by simp, fun i hi => by simp at hi⟩
    · rintro ⟨_, h⟩
      apply Classical.byContradiction
      intro h0
      obtain ⟨i, hi⟩ := Nat.exists_testBit_of_ne_zero h0
      cases h i hi
  have := subs_fold ps [] [0] hp (fun q _ s hs => by rw [List.mem_singleton.mp hs]; exact Nat.two_pow_pos q) k0
  rw [List.nil_append] at this
  exact this
/-- the sets shown, least first -/
theorem shown_eq (ps os ms : List Nat) (hp : ps.Pairwise (· < ·)) (hnd : os.Nodup) (hop : ∀ p, p ∈ ps → p ∈ os) (hms : ∀ M ∈ ms, ∀ i, M.testBit i = true → i ∈ ps) (hm0 : ms.Nodup) (X : Nat) (hX : X ∈ shiftAll os ms)
    (sh : List Int) (hs : sh.Pairwise (· ≤ ·)) (hn : sh.Nodup) (hm : ∀ x, x ∈ sh ↔ ∃ m ∈ ms, x = ((m &&& X : Nat) : Int)) : sh = (subsL ps X).map fun (n : Nat) => (n : Int) := by
  have k := subs_all ps hp X
  have hbits := (Kept.all os ms (Kept.start (ps := ps) hm0)).bits hms X hX
  have hr : ((subsL ps X).map fun (n : Nat) => (n : Int)).Pairwise (· < ·) := by
    rw [List.pairwise_map]
    exact k.rise.imp fun h => by omega
  have hperm : sh.Perm ((subsL ps X).map fun (n : Nat) => (n : Int)) := by
    refine (List.perm_ext_iff_of_nodup hn (hr.imp fun h => by omega)).mpr fun x => ?_
    rw [hm x, List.mem_map]
    constructor
    · rintro ⟨m, hm1, rfl⟩
      have e : (m &&& X) &&& X = m &&& X := by rw [Nat.and_assoc, Nat.and_self]
      exact ⟨m &&& X, (k.mem _).mpr ⟨e, fun i hi => hbits i (sub_bits e hi)⟩, rfl⟩
    · rintro ⟨s, hs1, rfl⟩
      obtain ⟨m, hm1, e⟩ := shown_whole ps os ms hnd hop hms hm0 X hX s ((k.mem s).mp hs1).1
      exact ⟨m, hm1, by rw [e]⟩
  exact List.Perm.eq_of_pairwise (fun _ _ _ _ h1 h2 => Int.le_antisymm h1 h2) hs (hr.imp fun h => by omega) hperm
theorem ch_fold {X : Nat} : ∀ (ps done acc : List Nat), ps.Pairwise (· < ·) → (∀ q ∈ ps, q ∉ done) → (∀ q ∈ ps, ∀ s ∈ acc, s < 2 ^ q) →
    ps.foldl (chStep X) (acc.map fun s => (done.filter s.testBit).map nameS) = (ps.foldl (subsStep X) acc).map fun s => ((done ++ ps).filter s.testBit).map nameS
  | [], done, acc, _, _, _ => by rw [List.append_nil]; rfl
  | p :: r, done, acc, hp, hnd, hlt => by
    have hp' := List.pairwise_cons.mp hp
    have hl := hlt p List.mem_cons_self
    have hpd := hnd p List.mem_cons_self
    have := ch_fold (X := X) r (done ++ [p]) (subsStep X acc p) hp'.2 (fun q hq h => by
      rcases List.mem_append.mp h with h | h
      · exact hnd q (List.mem_cons_of_mem _ hq) h
      · have h2 := hp'.1 q hq
        rw [List.mem_singleton.mp h] at h2; omega) (fun q hq => step_lt hl (hp'.1 q hq))
    rw [List.append_assoc] at this
    rw [List.foldl_cons, List.foldl_cons]
    refine Eq.trans ?_ this
    congr 1
    have h1 : ∀ s ∈ acc, ((done ++ [p]).filter s.testBit).map nameS = (done.filter s.testBit).map nameS := fun s hs => by
      rw [List.filter_append]
      simp [low_bit (hl s hs)]
    unfold chStep subsStep
    split
    · rw [List.map_append, List.map_map, List.map_map]
      congr 1
      · exact List.map_congr_left fun s hs => (h1 s hs).symm
      · refine List.map_congr_left fun s hs => ?_
        have hlb := low_bit (hl s hs)
        show _ ++ [nameS p] = ((done ++ [p]).filter (s + 2 ^ p).testBit).map nameS
        rw [List.filter_append, add_bit p s hlb]
        have h2 : (s ^^^ 2 ^ p).testBit p = true := by rw [flip_bit, hlb]; rfl
        have h3 : done.filter (s ^^^ 2 ^ p).testBit = done.filter s.testBit := List.filter_congr fun q hq => flip_other s (fun e => hpd (e ▸ hq))
        rw [h3]
        simp [h2]
    · exact List.map_congr_left fun s hs => (h1 s hs).symm
theorem ch_all (ps : List Nat) (hp : ps.Pairwise (· < ·)) (X : Nat) : chL ps X = (subsL ps X).map fun s => (ps.filter s.testBit).map nameS := by
  have := ch_fold (X := X) ps [] [0] hp (fun _ _ h => by cases h) (fun q _ s hs => by rw [List.mem_singleton.mp hs]; exact Nat.two_pow_pos q)
  rw [List.nil_append] at this
  exact this
theorem shown_pretty (ps : List Nat) (hp : ps.Pairwise (· < ·)) (h16 : ∀ q ∈ ps, q < 16) (s : Nat) (hb : ∀ i, s.testBit i = true → i ∈ ps) : shownS ((ps.filter s.testBit).map nameS) = prettyS s := by
  unfold shownS prettyS
  by_cases h0 : s = 0
  · subst h0
    have e : ps.filter (Nat.testBit 0) = [] := List.filter_eq_nil_iff.mpr fun a _ => by simp
    rw [e, if_pos rfl, List.map_nil, if_pos rfl]
    decide +kernel
  · have hne := picked_ne s ps hb h0
    rw [if_neg h0, if_neg (by simpa using hne)]
    unfold namesTo
    rw [bits_places s ps hp h16 hb]
theorem shown_choices (ps : List Nat) (hp : ps.Pairwise (· < ·)) (h16 : ∀ q ∈ ps, q < 16) (X : Nat) : (subsL ps X).map prettyS = (chL ps X).map shownS := by
  rw [ch_all ps hp X, List.map_map]
  refine List.map_congr_left fun s hs => ?_
  exact (shown_pretty ps hp h16 s (((subs_all ps hp X).mem s).mp hs).2).symm
end
section
inductive KidsAre : List (Addr × List Value × Nat) → List (List Str) → Prop
  | nil : KidsAre [] []
  | cons {a : Addr} {vs : List Value} {n : Nat} {c : List Str} {ks : List (Addr × List Value × Nat)} {cs : List (List Str)} : StrsAre vs c → KidsAre ks cs → KidsAre ((a, vs, n) :: ks) (c :: cs)
noncomputable def kidN (ks : List (Addr × List Value × Nat)) : List (Addr × Obj) := ks.map fun k => (k.1, W.listOf k.2.1.toArray k.2.2)
noncomputable def kidR (ks : List (Addr × List Value × Nat)) : List Value := ks.map fun k => .ref k.1
theorem KidsAre.append : ∀ {ks ks' : List (Addr × List Value × Nat)} {cs cs' : List (List Str)}, KidsAre ks cs → KidsAre ks' cs' → KidsAre (ks ++ ks') (cs ++ cs')
  | _, _, _, _, .nil, h' => h'
  | _, _, _, _, .cons h r, h' => .cons h (r.append h')
theorem KidsAre.length : ∀ {ks : List (Addr × List Value × Nat)} {cs : List (List Str)}, KidsAre ks cs → ks.length = cs.length
  | _, _, .nil => rfl
  | _, _, .cons _ r => congrArg (· + 1) r.length
theorem KidsAre.at : ∀ {ks : List (Addr × List Value × Nat)} {cs : List (List Str)} {i : Nat} {v : Value}, KidsAre ks cs → (kidR ks)[i]? = some v → ∃ a vs n c, ks[i]? = some (a, vs, n) ∧ cs[i]? = some c ∧ v = .ref a ∧ StrsAre vs c
  | _, _, _, _, .nil, e => by cases e
  | _, _, 0, _, .cons h _, e => ⟨_, _, _, _, rfl, rfl, (Option.some.inj e).symm, h⟩
  | _, _, i + 1, _, .cons _ r, e => r.at (i := i) e
theorem name_tops {h₀ h : Heap} {L it D E : Addr} {oi o1 : Obj} {x : List Value} {n : Nat} {rest : List (Addr × Obj)} {P : Prop} (_N : News h₀ L h ((it, oi) :: (D, o1) :: (E, W.listOf x.toArray n) :: rest)) (k : ∀ D' E', D' = D → E' = E → P) : P := k _ _ rfl rfl
theorem kids_ne {ks : List (Addr × List Value × Nat)} {d : Addr} (h : ∀ p ∈ kidN ks, @LT.lt Nat _ d p.1) : ∀ p ∈ kidN ks, p.1 ≠ d := fun p hp => (Nat.ne_of_lt (h p hp)).symm
theorem kidN_append (a b : List (Addr × List Value × Nat)) : kidN (a ++ b) = kidN a ++ kidN b := List.map_append
theorem kidR_append (a b : List (Addr × List Value × Nat)) : kidR (a ++ b) = kidR a ++ kidR b := List.map_append
theorem kid_at {ks : List (Addr × List Value × Nat)} {i : Nat} {a : Addr} {vs : List Value} {n : Nat} (h : ks[i]? = some (a, vs, n)) : (a, W.listOf vs.toArray n) ∈ kidN ks := List.mem_map.mpr ⟨(a, vs, n), List.mem_of_getElem? h, rfl⟩
theorem ch_len (X : Nat) : ∀ (ps : List Nat) (acc : List (List Str)), (ps.foldl (chStep X) acc).length ≤ 2 ^ ps.length * acc.length
  | [], acc => by simp
  | q :: r, acc => by
    rw [List.foldl_cons, List.length_cons]
    have h := ch_len X r (chStep X acc q)
    have h2 : (chStep X acc q).length ≤ 2 * acc.length := by
      unfold chStep; split
      · rw [List.length_append, List.length_map]; omega
      · omega
    have h3 := Nat.mul_le_mul_left (2 ^ r.length) h2
    rw [Nat.pow_succ]
    calc _ ≤ _ := h
      _ ≤ 2 ^ r.length * (2 * acc.length) := h3
      _ = _ := by rw [Nat.mul_assoc]
theorem ch_grow (X : Nat) : ∀ (ps : List Nat) (acc : List (List Str)) (b : Nat), (∀ c ∈ acc, c.length ≤ b) → ∀ c ∈ ps.foldl (chStep X) acc, c.length ≤ b + ps.length
  | [], acc, b, h, c, hc => h c hc
  | q :: r, acc, b, h, c, hc => by
    rw [List.foldl_cons] at hc
    have := ch_grow X r (chStep X acc q) (b + 1) (fun d hd => by
      unfold chStep at hd
      split at hd
      · rcases List.mem_append.mp hd with hd | hd
        · have := h d hd; omega
        · obtain ⟨e, he, rfl⟩ := List.mem_map.mp hd
          have := h e he
          rw [List.length_append, List.length_singleton]; omega
      · have := h d hd; omega) c hc
    rw [List.length_cons]; omega
theorem ch_small (X : Nat) (ps : List Nat) (c : List Str) (hc : c ∈ ps.foldl (chStep X) [[]]) : c.length ≤ ps.length := by
  have := ch_grow X ps [[]] 0 (fun d hd => by rw [List.mem_singleton.mp hd]; exact Nat.le_refl _) c hc
  omega
theorem ch_kids (X : Nat) (ps : List Nat) (hp : ps.Pairwise (· < ·)) (hp4 : ps.length = 4) : ∀ c ∈ chL ps X, c.length ≤ 4 ∧ (c.map (·.length)).sum ≤ 20 * c.length := by
  intro c hc
  rw [ch_all ps hp X] at hc
  obtain ⟨s, _, rfl⟩ := List.mem_map.mp hc
  refine ⟨by rw [List.length_map]; exact Nat.le_trans (List.length_filter_le _ _) (by omega), ?_⟩
  generalize ps.filter s.testBit = l
  induction l with
  | nil => exact Nat.le_refl _
  | cons a r ih =>
    have := nameS_length a
    simp only [List.map_cons, List.sum_cons, List.length_cons] at ih ⊢
    omega
section
local macro_rules | `(tactic| k_all) => `(tactic| exact kids_ne (by assumption))
set_option inductive.autoPromoteIndices false in
set_option autoImplicit false in
inductive ChoicesRet (ps : List Nat) (X : Nat) (plc : Addr) (pv : List Value) (nq : Nat)  : Value → List (Addr × Obj) → Prop
  | mk (D : Addr) (vs : List Value) (c : Nat) (c0 : StrsAre vs ((chL ps X).map shownS)) : ChoicesRet ps X plc pv nq (.ref D) ([(D, W.listOf vs.toArray c), (plc, W.listOf pv.toArray nq)])
set_option autoImplicit false in
theorem ChoicesRet.all {ps : List Nat} {X : Nat} {plc : Addr} {pv : List Value} {nq : Nat} {P : Value → List (Addr × Obj) → Prop} (h : ∀ (D : Addr) (vs : List Value) (c : Nat) (c0 : StrsAre vs ((chL ps X).map shownS)), P (.ref D) ([(D, W.listOf vs.toArray c), (plc, W.listOf pv.toArray nq)])) : ∀ (x0 : Value) (x1 : List (Addr × Obj)), ChoicesRet ps X plc pv nq x0 x1 → P x0 x1 :=
  fun _ _ t => ChoicesRet.rec (motive := fun x0 x1 _ => P x0 x1) h t
set_option inductive.autoPromoteIndices false in
set_option autoImplicit false in
inductive ChoI (g : Heap) (L' : Addr) (s : Shared) (ps : List Nat) (X : Nat) (tX : Tok) (plc : Addr) (pv : List Value) (nq : Nat) (it : Addr)  : Nat → Shared → Prop
  | mk (j : Nat) (oi : Obj) (oX : Obj) (cv : Option Value) (ch : Addr) (nch : Nat) (ks : List (Addr × List Value × Nat)) (h : Heap) (tk : Nat) (u : Str → Option Value) (c0 : j ≤ 4) (c1 : IsIt oi plc j) (c2 : oX.data = .cell cv) (c3 : Fr g L' h (fun z => if z = Str.ofString "choices" then some (.ref ch) else if z = Str.ofString "number" then some (.int (X : Int) tX) else if z = Str.ofString "places" then some (.ref plc) else u z)) (c4 : News g L' h ((it, oi) :: (ch, W.listOf (kidR ks).toArray nch) :: (L' + 1, oX) :: (plc, W.listOf pv.toArray nq) :: kidN ks)) (c5 : KidsAre ks ((ps.take j).foldl (chStep X) [[]])) (c6 : (∀ p ∈ kidN ks, @LT.lt Nat _ (L' + 1) p.1)) (c7 : (∀ p ∈ kidN ks, @Ne Nat p.1 it)) (c8 : (∀ p ∈ kidN ks, @Ne Nat p.1 ch)) (c9 : @LT.lt Nat _ (L' + 1) ch) (c10 : @Ne Nat ch it) : ChoI g L' s ps X tX plc pv nq it (4 - j) ({ s with heap := h, toks := tk })
set_option autoImplicit false in
theorem ChoI.all {g : Heap} {L' : Addr} {s : Shared} {ps : List Nat} {X : Nat} {tX : Tok} {plc : Addr} {pv : List Value} {nq : Nat} {it : Addr} {P : Nat → Shared → Prop} (h : ∀ (j : Nat) (oi : Obj) (oX : Obj) (cv : Option Value) (ch : Addr) (nch : Nat) (ks : List (Addr × List Value × Nat)) (h : Heap) (tk : Nat) (u : Str → Option Value) (c0 : j ≤ 4) (c1 : IsIt oi plc j) (c2 : oX.data = .cell cv) (c3 : Fr g L' h (fun z => if z = Str.ofString "choices" then some (.ref ch) else if z = Str.ofString "number" then some (.int (X : Int) tX) else if z = Str.ofString "places" then some (.ref plc) else u z)) (c4 : News g L' h ((it, oi) :: (ch, W.listOf (kidR ks).toArray nch) :: (L' + 1, oX) :: (plc, W.listOf pv.toArray nq) :: kidN ks)) (c5 : KidsAre ks ((ps.take j).foldl (chStep X) [[]])) (c6 : (∀ p ∈ kidN ks, @LT.lt Nat _ (L' + 1) p.1)) (c7 : (∀ p ∈ kidN ks, @Ne Nat p.1 it)) (c8 : (∀ p ∈ kidN ks, @Ne Nat p.1 ch)) (c9 : @LT.lt Nat _ (L' + 1) ch) (c10 : @Ne Nat ch it), P (4 - j) ({ s with heap := h, toks := tk })) : ∀ (x0 : Nat) (x1 : Shared), ChoI g L' s ps X tX plc pv nq it x0 x1 → P x0 x1 :=
  fun _ _ t => ChoI.rec (motive := fun x0 x1 _ => P x0 x1) h t
set_option inductive.autoPromoteIndices false in
set_option autoImplicit false in
inductive KidJ (plc it ch : Addr) (pv : List Value) (nq nch : Nat) (oi' oC : Obj) (ks : List (Addr × List Value × Nat)) (CS : List (List Str)) (q : Nat) (L' : Addr) (i : Nat) : List Value → List (Addr × Obj) → Prop
  | mk (rm : List (Addr × List Value × Nat)) (c0 : KidsAre rm.reverse ((CS.take i).map (· ++ [nameS q]))) (c1 : (∀ p ∈ kidN rm, @LT.lt Nat _ it p.1)) : KidJ plc it ch pv nq nch oi' oC ks CS q L' i (kidR rm.reverse) (kidN rm ++ ((it, oi') :: (ch, W.listOf (kidR ks).toArray nch) :: (L' + 1, oC) :: (plc, W.listOf pv.toArray nq) :: kidN ks))
set_option autoImplicit false in
theorem KidJ.all {plc : Addr} {it : Addr} {ch : Addr} {pv : List Value} {nq : Nat} {nch : Nat} {oi' : Obj} {oC : Obj} {ks : List (Addr × List Value × Nat)} {CS : List (List Str)} {q : Nat} {L' : Addr} {i : Nat} {P : List Value → List (Addr × Obj) → Prop} (h : ∀ (rm : List (Addr × List Value × Nat)) (c0 : KidsAre rm.reverse ((CS.take i).map (· ++ [nameS q]))) (c1 : (∀ p ∈ kidN rm, @LT.lt Nat _ it p.1)), P (kidR rm.reverse) (kidN rm ++ ((it, oi') :: (ch, W.listOf (kidR ks).toArray nch) :: (L' + 1, oC) :: (plc, W.listOf pv.toArray nq) :: kidN ks))) : ∀ (x0 : List Value) (x1 : List (Addr × Obj)), KidJ plc it ch pv nq nch oi' oC ks CS q L' i x0 x1 → P x0 x1 :=
  fun _ _ t => KidJ.rec (motive := fun x0 x1 _ => P x0 x1) h t
theorem KidJ.of {plc it ch : Addr} {pv : List Value} {nq nch : Nat} {oi' oC : Obj} {ks : List (Addr × List Value × Nat)} {CS : List (List Str)} {q : Nat} {L' : Addr} {i : Nat} {ys : List Value} {nw : List (Addr × Obj)} (rm : List (Addr × List Value × Nat)) (h1 : nw = kidN rm ++ ((it, oi') :: (ch, W.listOf (kidR ks).toArray nch) :: (L' + 1, oC) :: (plc, W.listOf pv.toArray nq) :: kidN ks)) (h2 : ys = kidR rm.reverse) (h3 : KidsAre rm.reverse ((CS.take i).map (· ++ [nameS q]))) (h4 : ∀ p ∈ kidN rm, @LT.lt Nat _ it p.1) : KidJ plc it ch pv nq nch oi' oC ks CS q L' i ys nw := by
  subst h1 h2
  exact .mk rm h3 h4
theorem words_choices_spec : True := by
  w_top off
  k_with_none
  k_with "mine ktr_room" => ((try simp only [depth_under_make, depth_under_kw, depth_in1, depth_deeper, depth_caller]); (try dsimp only [ktrTop]); first | decide | omega)
  k_with "mine ktr_units" => ((try simp only [units_in1, units_deeper, Around.mark_units, units_caller]); (try dsimp only [ktrTop]); first | (rw [cLine_is]; decide) | omega)
  k_with "mine call by" => ((case k1 => k_asm); (case k2 => kn_code); (case k3 => k_asm); (case k4 => k_asm); (case k5 => (refine' News.subs ?k51 ?k52; (case k51 => k_asm); (case k52 => ((repeat (refine List.forall_mem_cons.mpr (And.intro (by k_mem) ?_))); exact fun _ h => nomatch h)))); (case k6 => k_asm); (case k7 => first | exact rfl | assumption); (case k8 => ktr_room); (case k9 => ktr_units); (case kp => first | exact trivial | assumption))
  k_with "binaryOp Add str str" => (refine PyProof.Rows.add_str (hsz := ?hszq) ?_; (case hszq => assumption); intro _ _)
  k_with "call builtin:hex" => (refine P.hex_of_int ?_ (hsz := ?hszq); (case hszq => assumption))
  k_with "call builtin:list.append" => (k_here; (with_reducible show wpAny _ _ (call (Value.builtin _) [Value.ref _, _]) _ _ _); k_dflt (refine' append_K ?k1 ?k2 ?k3 ?_ ?z; (case k1 => k_asm); (case k2 => k_asm); (case k3 => k_upd); (case z => assumption); k_whole); intro h9w F9w N9w; (try k_sweep))
  k_with "call builtin:dict.get" => (k_here; k_dflt (refine' flag_get ?k1 ?k2 ?k3 ?k4 ?_; (case k1 => k_asm); (case k2 => exact Fr.keep (by with_reducible assumption)); (case k3 => assumption); (case k4 => assumption)); intro t9w tk9w)
  k_with "exec For Name Call cons nil" => (refine for_raw ?_)
  k_with "exec For Name Call cons cons" => (refine for_raw ?_)
  k_with "exec For Name Name cons nil" => (refine for_raw ?_)
  k_with "exec For Name Subscript cons nil" => (refine for_raw ?_)
  k_with "exec While Name cons nil" => (refine Stop.out ?_)
  k_with "subscriptTail" => (k_here; (with_reducible show wpAny _ _ (subscriptTail _ (Expr.Slice _ _ none _) (Value.bytes _ _) (Value.ref _)) _ _ _); (with_reducible rename Fr _ _ _ _ => F9w); (with_reducible rename News _ _ _ _ => N9w); (refine KBy.slice_N (s := ⟨_, _, _, _, _⟩) F9w N9w (by constructor) (by constructor) (by assumption) (by assumption) ?_); intro _ _ _ _ _)
  k_with "binaryOp Add bytes bytes" => (k_here; (with_reducible show wpAny _ _ (binaryOp Operator.Add (Value.bytes _ _) (Value.bytes _ _)) _ _ _); (refine KBy.add_bytes (by assumption) ?_); intro _ _)
  k_with "mine enter" => (k_dflt (refine' enter_plain ?k1 ?k2 ?k3 ?k4 ?k5 ?kA ?kF ?kK ?k6 ?k7 ?k8 ?k9 ?kB ?hr ?_ ?c2 ?c3 ?c4 ?c5; (case kA => exact rfl); (case kF => exact rfl); (case kK => assumption); (case k1 => k_asm); (case k2 => k_asm); (case k3 => k_asm); (case k4 => k_asm); (case k5 => k_asm); (case k6 => k_is); (case k7 => k_is); (case k8 => ktr_room); (case k9 => exact BindsTo.of_eq rfl); (case c5 => decide); (case kB => exact locs rfl); (case hr => assumption); (case c2 => exact rfl); (case c3 => exact rfl); (case c4 => exact rfl); k_whole))
  k_with "mine cells" => (k_dflt (refine' enter_cells ?k1 ?k2 ?k3 ?k4 ?k5 ?kA ?kF ?kK ?k6 ?k7 ?k8 ?k9 ?kB ?kD ?hr ?_ ?c2 ?c3 ?c4; (case kA => exact rfl); (case kF => exact rfl); (case kK => assumption); (case k1 => k_asm); (case k2 => k_asm); (case k3 => k_asm); (case k4 => k_asm); (case k5 => k_asm); (case k6 => k_is); (case k7 => k_is); (case k8 => ktr_room); (case k9 => exact BindsTo.of_eq rfl); (case kB => exact rfl); (case kD => decide +kernel); (case hr => assumption); (case c2 => exact rfl); (case c3 => exact rfl); (case c4 => exact rfl); k_whole))
  k_with "mine made" => (k_dflt (refine' enter_made ?k1 ?k2 ?k3 ?k4 ?k5 ?kA ?kF ?kK ?k6 ?kd ?k7 ?k8 ?k9 ?kB ?hr ?_ ?c2 ?c3 ?c4 ?c5; (case kA => exact rfl); (case kF => exact rfl); (case kK => assumption); (case k1 => k_asm); (case k2 => k_asm); (case k3 => k_asm); (case k4 => k_asm); (case k5 => k_asm); (case k6 => k_mem); (case kd => exact rfl); (case k7 => exact codeRec_news (by k_asm) (by k_mem) (by assumption) (by assumption)); (case k8 => ktr_room); (case k9 => exact BindsTo.of_eq rfl); (case c5 => decide); (case kB => exact locs rfl); (case hr => assumption); (case c2 => exact rfl); (case c3 => exact rfl); (case c4 => exact rfl); k_whole))
  k_with "subscriptTail" => (k_here; (with_reducible show wpAny _ _ (subscriptTail _ (Expr.Slice _ _ none _) (Value.str _ _) (Value.ref _)) _ _ _); (with_reducible rename Fr _ _ _ _ => F9w); (with_reducible rename News _ _ _ _ => N9w); (first
  | ((with_reducible show wpAny _ _ (subscriptTail _ (Expr.Slice (some _) (some _) none _) _ _) _ _ _); (refine slice_strN_ss (hsz := ?hsz) (s := ⟨_, _, _, _, _⟩) F9w N9w ?_); (case hsz => assumption))
  | ((with_reducible show wpAny _ _ (subscriptTail _ (Expr.Slice none (some _) none _) _ _) _ _ _); (refine slice_strN_ns (hsz := ?hsz) (s := ⟨_, _, _, _, _⟩) F9w N9w ?_); (case hsz => assumption))); intro _ _ _ _ _)
  k_with "call builtin:len" => (k_here; (with_reducible show wpAny _ _ (call (Value.builtin "len") [Value.str _ _]) _ _ _); refine PyProof.Rows.len_str ?hfit ?_; (case hfit => first | exact len_fitS (by assumption) | exact len_fits (by assumption)))
  k_with "exec For Name Name cons cons" => (refine for_raw ?_)
  k_with "call builtin:iter" => (k_here; (with_reducible show wpAny _ _ (call (Value.builtin _) [Value.ref _, Value.str _ _]) _ _ _); k_dflt (refine' call_iter2 ?k1 ?k2 ?k3 ?_; (case k1 => k_asm); (case k2 => k_asm); (case k3 => k_mem); k_whole); intro it9w h9w F9w N9w l9w G9w; (try k_lt l9w))
  k_with "inplaceOp Add str str" => (refine PyProof.Rows.iadd_str (hsz := ?hszi) ?_; (case hszi => assumption); intro _ _)
  k_with "call type:enumerate" => (k_here; k_dflt (refine' call_enum ?k1 ?k2 ?k3 ?_; (case k1 => k_asm); (case k2 => k_asm); (case k3 => k_mem); k_whole))
  k_with "call type:zip" => (k_here; k_dflt (refine' call_zip ?k1 ?k2 ?k3 ?k4 ?_; (case k1 => k_asm); (case k2 => k_asm); (case k3 => k_mem); (case k4 => k_mem); k_whole))
  k_with "exec For Tuple Call cons nil" => (refine for_pair ?_)
  k_with "exec For Tuple Call cons cons" => (refine for_pair ?_)
  k_with "setItem ref int" => (k_here; k_dflt (refine' set_list ?F ?N ?k ?U ?_; (case F => k_asm); (case N => k_asm); (case U => k_upd); (case k => assumption)); intro h9w F9w N9w; (try dsimp only [List.nil_append, List.cons_append] at N9w))
  k_with "call builtin:list.insert" => (k_here; (with_reducible show wpAny _ _ (call (Value.builtin _) [Value.ref _, Value.int _ _, _]) _ _ _); k_dflt (refine' ins_list ?F ?N ?k ?U ?_; (case F => k_asm); (case N => k_asm); (case U => k_upd); (case k => assumption)); intro h9w F9w N9w; (try dsimp only [List.nil_append, List.cons_append] at N9w))
  k_with "exec For Name Name cons nil" => (refine Stop.out ?_)
  k_with "binaryOp Add ref ref" => (refine Stop.out ?_)
  k_with "eval ListComp" => (refine Stop.out ?_)
  k_with "CompSrc" => (refine Stop.out ?_)
  k_with "truthy ref" => (refine Stop.out ?_)
  k_with "call builtin:str.join" => (refine Stop.out ?_)
  k_with "call ref" => (refine Stop.out ?_)
  k_with "lt0" => (first | with_reducible assumption | exact And.left (by with_reducible assumption) | exact And.left (And.right (by with_reducible assumption)) | exact And.left (And.right (And.right (by with_reducible assumption))) | exact And.left (And.right (And.right (And.right (by with_reducible assumption)))) | exact And.left (And.right (And.right (And.right (And.right (by with_reducible assumption))))) | exact And.left (And.right (And.right (And.right (And.right (And.right (by with_reducible assumption)))))) | exact And.left (And.right (And.right (And.right (And.right (And.right (And.right (by with_reducible assumption))))))) | exact And.left (And.right (And.right (And.right (And.right (And.right (And.right (And.right (by with_reducible assumption)))))))) | exact And.left (And.right (And.right (And.right (And.right (And.right (And.right (And.right (And.right (by with_reducible assumption))))))))) | exact And.left (And.right (And.right (And.right (And.right (And.right (And.right (And.right (And.right (And.right (by with_reducible assumption)))))))))) | exact And.left (And.right (And.right (And.right (And.right (And.right (And.right (And.right (And.right (And.right (And.right (by with_reducible assumption))))))))))) | exact And.left (And.right (And.right (And.right (And.right (And.right (And.right (And.right (And.right (And.right (And.right (And.right (by with_reducible assumption)))))))))))) | exact And.right (by with_reducible assumption) | exact And.right (And.right (by with_reducible assumption)) | exact And.right (And.right (And.right (by with_reducible assumption))) | exact And.right (And.right (And.right (And.right (by with_reducible assumption)))) | exact And.right (And.right (And.right (And.right (And.right (by with_reducible assumption))))) | exact And.right (And.right (And.right (And.right (And.right (And.right (by with_reducible assumption)))))) | exact And.right (And.right (And.right (And.right (And.right (And.right (And.right (by with_reducible assumption))))))) | exact And.right (And.right (And.right (And.right (And.right (And.right (And.right (And.right (by with_reducible assumption)))))))) | exact And.right (And.right (And.right (And.right (And.right (And.right (And.right (And.right (And.right (by with_reducible assumption))))))))) | exact And.right (And.right (And.right (And.right (And.right (And.right (And.right (And.right (And.right (And.right (by with_reducible assumption)))))))))) | exact And.right (And.right (And.right (And.right (And.right (And.right (And.right (And.right (And.right (And.right (And.right (by with_reducible assumption))))))))))) | exact nat_lt1 _)
  k_with "ch" => (first | with_reducible assumption | (refine Nat.lt_trans (by with_reducible assumption) ?_; k_extra "ch"))
  k_with "lt" => (first | k_extra "lt0" | exact nat_ltS (by k_extra "lt0") | exact nat_ltS (nat_ltS (by k_extra "lt0")) | exact nat_ltS (nat_ltS (nat_ltS (by k_extra "lt0"))) | exact nat_ltS (nat_ltS (nat_ltS (nat_ltS (by k_extra "lt0")))) | exact nat_ltS (nat_ltS (nat_ltS (nat_ltS (nat_ltS (by k_extra "lt0"))))) | exact nat_ltS (nat_ltS (nat_ltS (nat_ltS (nat_ltS (nat_ltS (by k_extra "lt0")))))) | exact nat_ltS (nat_ltS (nat_ltS (nat_ltS (nat_ltS (nat_ltS (nat_ltS (by k_extra "lt0"))))))) | exact nat_ltS (nat_ltS (nat_ltS (nat_ltS (nat_ltS (nat_ltS (nat_ltS (nat_ltS (by k_extra "lt0")))))))) | k_extra "ch")
  k_with "omega" => (first
    | with_reducible assumption
    | exact Nat.ne_of_lt (by with_reducible assumption) | exact Nat.ne_of_gt (by with_reducible assumption)
    | exact nat_room2 (by with_reducible assumption) (by rfl) | exact nat_room1 (by with_reducible assumption) (by rfl) | exact nat_room3 (by with_reducible assumption) (by rfl) | exact nat_room0 (by with_reducible assumption)
    | exact nat_meas (by with_reducible assumption) | exact nat_meas (Nat.lt_succ_of_lt (by with_reducible assumption))
    | exact c_low (by with_reducible assumption) (by rfl) | exact c_high (by with_reducible assumption) (by rfl) | exact c_lt (by with_reducible assumption) (by rfl)
    | exact Nat.succ_le_of_lt (by with_reducible assumption) | exact Nat.lt_succ_of_le (by with_reducible assumption)
    | exact Int.ofNat_lt.mpr (by with_reducible assumption)
    | exact Nat.ne_of_lt (by k_extra "lt") | exact Nat.ne_of_gt (by k_extra "lt") | k_extra "lt"
    | exact Nat.le_trans (by with_reducible assumption) (by decide)
    | decide)
  exact True.intro
set_option maxRecDepth 100000 in
set_option maxHeartbeats 8000000 in
theorem choices_spec (w : World) (p : Program) (loose : List Str) (mean : ExcName → Option Value) (mg mb : Str → Option Value) (X : Nat) (tX : Tok) (plc : Addr) (pv : List Value) (ps : List Nat) (nq : Nat) (hpv : IntsAre pv (ps.map fun (x : Nat) => (x : Int))) (hp : ps.Pairwise (· < ·)) (hp4 : ps.length = 4) (hp16 : ∀ q ∈ ps, q < 16) :
   Claim w p loose mean mg mb 121 9 [(plc, W.listOf pv.toArray nq)] [.int (X : Int) tX, .ref plc] (fun _ => True)
     (ChoicesRet ps X plc pv nq) := by
  dsimp only [Claim, PR]
  k_fill
  intro dp un gd cn cs ca ccd cl outer A₀ base h₀ L m s Q E hB hC hF hX hN hT hk hd hu hp' hret
  refine wpAny_call ?_
  walk_at "mine cells"
  intro g L' h1 tk cells FG F1 N1 Y1 B1 X1 T1 G1 l1
  try k_lt l1
  obtain ⟨oX, hE', dX⟩ := CellsAre.one Y1
  subst hE'
  clear Y1
  simp only [List.cons_append, List.nil_append] at N1
  refine id ?_
  (with_reducible show wpAny _ _ _ _ _ _)
  k_fold
  k_steps
  unfold Stop
  exact by
    refine for_raw ?_
    k_steps
    (with_reducible rename News _ _ _ _ => NB)
    refine iter_list (by k_asm) NB (News.isList NB (by k_mem)) ?_
    intro it oi h2 hi2 F2 N2 l2 G2
    rename_i k0 _ _ ch0 _ _ _ _
    have q1 : @LT.lt Nat _ ch0 it := l2 (ch0, _) List.mem_cons_self
    have q0 : @LT.lt Nat _ k0 it := l2 (k0, _) (List.mem_cons_of_mem _ List.mem_cons_self)
    have qc : @LT.lt Nat _ (L' + 1) k0 := by omega
    refine ⟨ChoI g L' s ps X tX plc pv nq it, 4, ?_, ?_⟩
    · refine ⟨0, oi, oX, _, ch0, 0, [(k0, [], 0)], h2, _, _, Nat.zero_le _, hi2, dX, fr_map3 F2 (Str.ofString "choices") (Str.ofString "number") (Str.ofString "places") rfl rfl rfl, News.subs N2 ?_, .cons .nil .nil, ?_, ?_, ?_, by omega, by show @Ne Nat _ _; omega⟩
      · intro p hp
        simp only [kidN, kidR, List.map_cons, List.map_nil, List.mem_cons, List.not_mem_nil, or_false] at hp ⊢
        rcases hp with h | h | h | h | h <;> simp [h]
      · intro p hp; rw [List.mem_singleton.mp hp]; exact qc
      · intro p hp; rw [List.mem_singleton.mp hp]; exact Nat.ne_of_lt q0
      · intro p hp; rw [List.mem_singleton.mp hp]; show @Ne Nat k0 ch0; omega
    · refine ChoI.all ?_
      intro j oi oX cv ch nch ks h tk u hj hi3 dX3 F3 N3 hks hk1 hk2 hk3 hc1 hc2
      have hpl : pv.length = 4 := by rw [ints_len hpv, List.length_map, hp4]
      have hit : @LT.lt Nat _ (L' + 1) it := by omega
      have hplc : @LT.lt Nat _ plc (L' + 1) := by omega
      refine next_list rfl hi3 F3 N3 ?_ (News.isList N3 (by k_mem)) ?_ ?_
      · refine List.forall_mem_cons.mpr ⟨hc2, List.forall_mem_cons.mpr ⟨by show @Ne Nat _ _; omega, List.forall_mem_cons.mpr ⟨by show @Ne Nat _ _; omega, hk2⟩⟩⟩
      · intro v oi' h4 hv4 hi4 F4 N4 G4
        obtain ⟨qk, tq, hqk, rfl⟩ := ints_at hpv (by simpa using hv4)
        obtain ⟨q, hq, rfl⟩ : ∃ q : Nat, ps[j]? = some q ∧ qk = (q : Int) := by
          simp only [List.getElem?_map] at hqk
          cases hc : ps[j]? with
          | none => rw [hc] at hqk; cases hqk
          | some M => rw [hc] at hqk; exact ⟨M, rfl, (Option.some.inj hqk).symm⟩
        have hq16 := hp16 q (List.mem_of_getElem? hq)
        have hq0 : (0 : Int) ≤ (q : Int) := Int.natCast_nonneg _
        have hq1 : (q : Int) < 16 := by omega
        have hj4 : j < 4 := by rw [← hp4]; exact (List.getElem?_eq_some_iff.mp hq).1
        have htake : (ps.take (j + 1)).foldl (chStep X) [[]] = chStep X ((ps.take j).foldl (chStep X) [[]]) q := by
          rw [List.take_add_one, hq, Option.toList_some, List.foldl_append]; rfl
        generalize hCS : (ps.take j).foldl (chStep X) [[]] = CS at hks htake
        have hkl : ks.length ≤ 16 := by
          rw [hks.length, ← hCS]
          refine Nat.le_trans (ch_len X _ _) ?_
          rw [List.length_take, List.length_singleton, Nat.mul_one]
          exact Nat.le_trans (Nat.pow_le_pow_right (by decide) (show min j ps.length ≤ 4 by omega)) (by decide)
        dsimp only [ForTurn]
        k_steps
        · have hb : X.testBit q = true := (bit_test X q).mp (by assumption)
          have hst : chStep X CS q = CS ++ CS.map (· ++ [nameS q]) := if_pos hb
          unfold Stop
          exact by
            (with_reducible rename News _ _ _ _ => NB0)
            rename_i oC _ _ _ _
            refine LCg.ListComp_U (F₀ := by k_asm) (by with_unfolding_all rfl) (by decide) (by rfl) (by decide) (by rfl) ?_
            k_steps
            unfold Stop
            exact by
              (with_reducible rename News _ _ _ _ => NB)
              refine LCg.CompSrc.ledger (by rfl) (by k_asm) NB (ax := ch) (its := (kidR ks).toArray) (k := nch) (by k_mem) (by rw [List.size_toArray, kidR, List.length_map, PySem.sizeLine_eq]; omega) ?_
              intro g8
              refine comp_rest (KidJ plc it ch pv nq nch oi' oC ks CS q L') ⟨[], .nil, fun _ h => nomatch h⟩ ?_ ?_
              · intro i v I oI C oC2 D m₂ hh tk E' hi
                refine KidJ.all ?_
                rintro rm hrm hlt hv hoC hx F N off ne
                obtain ⟨a, vs, na, c, hka, hca, rfl, hvs⟩ := hks.at (i := i) (by simpa using hv)
                have hma := kid_at hka
                have hcl : vs.length ≤ 4 := by
                  rw [strs_len hvs]
                  have := ch_small X (ps.take j) c (hCS ▸ List.mem_of_getElem? hca)
                  rw [List.length_take] at this
                  omega
                have NX : News g L' hh ((a, W.listOf vs.toArray na) :: (I, oI) :: (C, oC2) :: (D, LCg.lst (kidR rm.reverse)) :: (it, oi') :: (ch, W.listOf (kidR ks).toArray nch) :: (L' + 1, oC) :: (plc, W.listOf pv.toArray nq) :: (kidN rm ++ kidN ks)) := News.subs N (by
                  intro p hp
                  simp only [List.mem_cons, List.mem_append] at hp ⊢
                  rcases hp with h | h | h | h | h | h | h | h | h | h
                  · subst h; simp [hma]
                  all_goals simp [h])
                clear N
                k_steps
                unfold Stop
                exact by
                  (with_reducible rename News _ _ _ _ => NA)
                  k_call_by "mine" (name_spec w p loose mean mg mb q _ hq16)
                  refine ValRet.all ?_
                  intro t7 h7 tk7 F7 N7 G7 O7
                  have N8 := News.keep0 NA G7
                  clear N7 G7 O7 NA
                  k_steps
                  unfold Stop
                  exact by
                    (with_reducible rename News _ _ _ _ => NB3)
                    refine kmk_add_lit (by k_asm) NB3 (News.isList NB3 (by k_mem)) (News.isList NB3 (by k_mem)) (zs := (vs ++ [Value.str (nameS q) t7] : List Value)) rfl ?_ (by show vs.length + 1 ≤ sizeLine; rw [PySem.sizeLine_eq]; omega)
                    intro D' h' F' N' l'
                    have lI := l' (I, oI) (by k_mem)
                    have lC := l' (C, oC2) (by k_mem)
                    have lD := l' (D, _) (by k_mem)
                    have lit := l' (it, oi') (by k_mem)
                    refine LCg.CompEnd.intro F' N' ((D', W.listOf (vs ++ [Value.str (nameS q) t7]).toArray 0) :: (kidN rm ++ ((it, oi') :: (ch, W.listOf (kidR ks).toArray nch) :: (L' + 1, oC) :: (plc, W.listOf pv.toArray nq) :: kidN ks))) ?_ ⟨⟨(Nat.ne_of_lt lI).symm, (Nat.ne_of_lt lC).symm, (Nat.ne_of_lt lD).symm⟩, off⟩ (.inr ⟨W.listOf (kidR ks).toArray nch, by simp, rfl, nch, rfl⟩) (KidJ.of ((D', vs ++ [Value.str (nameS q) t7], 0) :: rm) rfl ?_ ?_ ?_)
                    · intro p hp
                      simp only [List.mem_cons, List.mem_append] at hp ⊢
                      rcases hp with h | h | h | h | h | h | h | h | h | h <;> simp [h]
                    · rw [List.reverse_cons, kidR_append]; rfl
                    · rw [List.reverse_cons, List.take_add_one, hca, Option.toList_some, List.map_append]
                      exact hrm.append (.cons (hvs.append' (.cons _ _ .nil)) .nil)
                    · intro p hp
                      rcases List.mem_cons.mp hp with rfl | hp
                      · exact lit
                      · exact hlt p hp
              · refine KidJ.all ?_
                intro rm hrm hlt
                intro D hh tk F N off
                have hsz : (kidR ks).toArray.size = CS.length := by rw [List.size_toArray, kidR, List.length_map, hks.length]
                rw [hsz, List.take_length] at hrm
                have hrl : rm.length ≤ 16 := by
                  have := hrm.length
                  rw [List.length_reverse, List.length_map, ← hks.length] at this
                  omega
                have NX : News g L' hh ((D, LCg.lst (kidR rm.reverse)) :: (it, oi') :: (ch, W.listOf (kidR ks).toArray nch) :: (L' + 1, oC) :: (plc, W.listOf pv.toArray nq) :: (kidN rm ++ kidN ks)) := News.subs N (by
                  intro p hp
                  simp only [List.mem_cons, List.mem_append] at hp ⊢
                  rcases hp with h | h | h | h | h | h | h <;> simp [h])
                clear N off
                k_steps
                unfold Stop
                exact by
                  (with_reducible rename News _ _ _ _ => NB3)
                  refine kmk_add_lit (by k_asm) NB3 (News.isList NB3 (by k_mem)) (News.isList NB3 (by k_mem)) (zs := kidR (ks ++ rm.reverse)) (by rw [kidR_append]) ?_ (by show (kidR ks).length + (kidR rm.reverse).length ≤ sizeLine; rw [kidR, kidR, List.length_map, List.length_map, List.length_reverse, PySem.sizeLine_eq]; omega)
                  intro D' h' F' N' l'
                  have lit := l' (it, oi') (by k_mem)
                  have lcl := l' (L' + 1, oC) (by k_mem)
                  have lk : ∀ p ∈ kidN (ks ++ rm.reverse), @LT.lt Nat _ p.1 D' := fun p hp => l' p (by
                    rw [kidN_append] at hp
                    have : p ∈ kidN rm ++ kidN ks := by
                      rcases List.mem_append.mp hp with h | h
                      · exact List.mem_append_right _ h
                      · refine List.mem_append_left _ ?_
                        unfold kidN at h ⊢; rw [List.map_reverse] at h; exact List.mem_reverse.mp h
                    simp only [List.mem_cons]
                    simp [List.mem_append.mp this])
                  have lo : ∀ p ∈ kidN (ks ++ rm.reverse), p ∈ kidN ks ∨ p ∈ kidN rm := fun p hp => by
                    rw [kidN_append] at hp
                    rcases List.mem_append.mp hp with h | h
                    · exact .inl h
                    · refine .inr ?_
                      unfold kidN at h ⊢; rw [List.map_reverse] at h; exact List.mem_reverse.mp h
                  k_steps
                  (with_reducible rename Fr _ _ _ _ => F9)
                  (with_reducible rename News _ _ _ _ => N9)
                  refine ⟨4 - (j + 1), by omega, j + 1, oi', oC, _, D', 0, ks ++ rm.reverse, _, _, _, by omega, hi4, (by assumption), fr_map3 F9 (Str.ofString "choices") (Str.ofString "number") (Str.ofString "places") rfl rfl rfl, News.subs N9 ?_, (by rw [htake, hst]; exact hks.append hrm), fun p hp => ?_, fun p hp => ?_, fun p hp => Nat.ne_of_lt (lk p hp), lcl, (Nat.ne_of_lt lit).symm⟩
                  · intro p hp
                    simp only [List.mem_cons] at hp
                    rcases hp with h | h | h | h | h
                    · simp [h]
                    · simp [h]
                    · simp [h]
                    · simp [h]
                    · rcases lo p h with h | h <;> simp [h]
                  · rcases lo p hp with h | h
                    · exact hk1 p h
                    · exact Nat.lt_trans hit (hlt p h)
                  · rcases lo p hp with h | h
                    · exact hk2 p h
                    · exact (Nat.ne_of_lt (hlt p h)).symm
        · have hb : X.testBit q = false := by
            cases hc : X.testBit q with
            | false => rfl
            | true => exact absurd ((bit_test X q).mpr hc) (by assumption)
          have hst : chStep X CS q = CS := by unfold chStep; rw [hb]; rfl
          (with_reducible rename Fr _ _ _ _ => F9)
          (with_reducible rename News _ _ _ _ => N9)
          exact ⟨4 - (j + 1), by omega, j + 1, oi', _, _, ch, nch, ks, _, _, _, by omega, hi4, (by assumption), fr_map3 F9 (Str.ofString "choices") (Str.ofString "number") (Str.ofString "places") rfl rfl rfl, N9, (by rw [htake, hst]; exact hks), hk1, hk2, hk3, hc1, hc2⟩
      · intro h4 hv4 F4 N4 G4
        dsimp only [ForTurn]
        have hpl4 : 4 ≤ j := by
          rw [List.getElem?_toArray, List.getElem?_eq_none_iff, hpl] at hv4; exact hv4
        have hj4 : j = 4 := by omega
        subst hj4
        have hch : (ps.take 4).foldl (chStep X) [[]] = chL ps X := by rw [List.take_of_length_le (by omega)]; rfl
        rw [hch] at hks
        have hkid := ch_kids X ps hp hp4
        have hchl : (chL ps X).length ≤ 16 := by
          have := ch_len X ps [[]]
          rw [hp4, List.length_singleton] at this
          exact this
        generalize hC0 : chL ps X = CS at hks hkid hchl
        have hkl : ks.length ≤ 16 := by rw [hks.length]; exact hchl
        k_steps
        unfold Stop
        exact by
          refine LCg.ListComp_U (F₀ := by k_asm) (by with_unfolding_all rfl) (by decide) (by rfl) (by decide) (by rfl) ?_
          k_steps
          unfold Stop
          exact by
            (with_reducible rename News _ _ _ _ => NB)
            refine LCg.CompSrc.ledger (by rfl) (by k_asm) NB (ax := ch) (its := (kidR ks).toArray) (k := nch) (by k_mem) (by rw [List.size_toArray, kidR, List.length_map, PySem.sizeLine_eq]; omega) ?_
            intro g8
            refine comp_rest (SameJ _ fun i => (CS.take i).map shownS) (.mk .nil) ?_ ?_
            · intro i v I oI C oC2 D m₂ hh tk E' hi
              intro ys
              refine SameJ.all ?_
              rintro hys hv hoC hx F N off ne
              obtain ⟨a, vs, na, c, hka, hca, rfl, hvs⟩ := hks.at (i := i) (by simpa using hv)
              have hma := kid_at hka
              have hck := hkid c (List.mem_of_getElem? hca)
              have hcl : vs.length ≤ 4 := by rw [strs_len hvs]; exact hck.1
              have NX : News g L' hh ((a, W.listOf vs.toArray na) :: (I, oI) :: (C, oC2) :: (D, LCg.lst ys) :: (ch, W.listOf (kidR ks).toArray nch) :: (L' + 1, oX) :: (plc, W.listOf pv.toArray nq) :: kidN ks) := News.subs N (by
                intro p hp
                simp only [List.mem_cons] at hp ⊢
                rcases hp with h | h | h | h | h | h | h | h
                · subst h; simp [hma]
                all_goals simp [h])
              clear N
              k_steps
              unfold Stop
              exact by
                (with_reducible rename News _ _ _ _ => NC)
                refine wpAny_truthy_list (News.isList NC (by k_mem)) (by rw [List.size_toArray]; omega) ?_
                have hres : ∀ ys2 : List Str, (ys2 = if c = [] then [Str.ofString "0x0"] else c) → Txt.join (Str.ofString ", ") ys2 = shownS c := fun ys2 e => by rw [e]; rfl
                have htk : ((CS.take (i + 1)).map shownS) = (CS.take i).map shownS ++ [shownS c] := by
                  rw [List.take_add_one, hca, Option.toList_some, List.map_append]; rfl
                cases vs with
                | nil =>
                  simp only [List.isEmpty_toArray, List.isEmpty_nil, Bool.not_true]
                  have hc0 : c = [] := List.length_eq_zero_iff.mp (strs_len hvs).symm
                  k_steps
                  unfold Stop
                  exact by
                    (with_reducible rename News _ _ _ _ => NB3)
                    refine join_listC (News.isList NB3 (by k_mem)) (.cons _ _ .nil) (by decide) (by decide +kernel) ?_
                    intro t' k'
                    (with_reducible rename Fr _ _ _ _ => F9)
                    refine LCg.CompEnd.intro F9 NB3 ((ch, W.listOf (kidR ks).toArray nch) :: (L' + 1, oX) :: (plc, W.listOf pv.toArray nq) :: kidN ks) ?_ off (.inr ⟨W.listOf (kidR ks).toArray nch, by simp, rfl, nch, rfl⟩) (.mk ?_)
                    · intro p hp
                      simp only [List.mem_cons] at hp ⊢
                      rcases hp with h | h | h | h | h | h | h <;> simp [h]
                    · rw [htk, hres _ (if_pos hc0).symm]
                      exact hys.append' (.cons _ _ .nil)
                | cons v0 vr =>
                  simp only [List.isEmpty_toArray, List.isEmpty_cons, Bool.not_false]
                  have hc0 : c ≠ [] := fun e => by
                    have := strs_len hvs
                    rw [e] at this; simp at this
                  k_steps
                  unfold Stop
                  exact by
                    (with_reducible rename News _ _ _ _ => NB3)
                    refine join_listC (News.isList NB3 (by k_mem)) hvs (by decide) (by have := hck.1; have := hck.2; omega) ?_
                    intro t' k'
                    (with_reducible rename Fr _ _ _ _ => F9)
                    refine LCg.CompEnd.intro F9 NB3 ((ch, W.listOf (kidR ks).toArray nch) :: (L' + 1, oX) :: (plc, W.listOf pv.toArray nq) :: kidN ks) ?_ off (.inr ⟨W.listOf (kidR ks).toArray nch, by simp, rfl, nch, rfl⟩) (.mk ?_)
                    · intro p hp
                      simp only [List.mem_cons] at hp ⊢
                      rcases hp with h | h | h | h | h | h | h <;> simp [h]
                    · rw [htk, ← hres _ (if_neg hc0).symm]
                      exact hys.append' (.cons _ _ .nil)
            · intro ys
              refine SameJ.all ?_
              intro hys
              intro D hh tk F N off
              have hsz : (kidR ks).toArray.size = CS.length := by rw [List.size_toArray, kidR, List.length_map, hks.length]
              rw [hsz, List.take_length] at hys
              clear off
              k_steps
              refine Done.intro (by assumption) (by assumption) [(D, LCg.lst ys), (plc, W.listOf pv.toArray nq)] ?_ ⟨D, ys, ys.length, by rw [hC0]; exact hys⟩
              intro p hp
              simp only [List.mem_cons, List.not_mem_nil, or_false] at hp ⊢
              rcases hp with h | h <;> simp [h]
end
end
theorem words_none_LawF : True := by
  w_top off
  k_with_none
  exact True.intro
section
open PySem PySem.W PyProof.Rows PySem.Calls
noncomputable def digI (de : List Int) (i : Nat) : Int := 1 + ((de.getD 7 0).fdiv (4 ^ i)).fmod 4
noncomputable def plI (de : List Int) (j : Nat) : Int := ((List.range (j + 1)).map (digI de)).sum - 1
theorem dig_in (de : List Int) (i : Nat) : 1 ≤ digI de i ∧ digI de i ≤ 4 := by
  unfold digI
  rw [Int.fmod_eq_emod_of_nonneg _ (by decide)]
  have h1 := Int.emod_nonneg ((de.getD 7 0).fdiv (4 ^ i)) (b := 4) (by decide)
  have h2 := Int.emod_lt_of_pos ((de.getD 7 0).fdiv (4 ^ i)) (b := 4) (by decide)
  omega
theorem places_nat (de : List Int) : ∃ ps : List Nat, (List.range 4).map (plI de) = ps.map (fun (x : Nat) => (x : Int)) ∧ ps.length = 4 ∧ ps.Pairwise (· < ·) ∧ ∀ q ∈ ps, q < 16 := by
  have h0 := dig_in de 0
  have h1 := dig_in de 1
  have h2 := dig_in de 2
  have h3 := dig_in de 3
  have e0 : plI de 0 = digI de 0 - 1 := by simp [plI, List.range_succ]
  have e1 : plI de 1 = digI de 0 + digI de 1 - 1 := by simp [plI, List.range_succ]
  have e2 : plI de 2 = digI de 0 + digI de 1 + digI de 2 - 1 := by simp [plI, List.range_succ]; omega
  have e3 : plI de 3 = digI de 0 + digI de 1 + digI de 2 + digI de 3 - 1 := by simp [plI, List.range_succ]; omega
  have er : (List.range 4).map (plI de) = [plI de 0, plI de 1, plI de 2, plI de 3] := rfl
  rw [er, e0, e1, e2, e3]
  generalize digI de 0 = a at *
  generalize digI de 1 = b at *
  generalize digI de 2 = c at *
  generalize digI de 3 = d at *
  refine ⟨[(a - 1).toNat, (a + b - 1).toNat, (a + b + c - 1).toNat, (a + b + c + d - 1).toNat], ?_, rfl, ?_, ?_⟩
  · simp only [List.map_cons, List.map_nil]
    congr 1
    · omega
    · congr 1
      · omega
      · congr 1
        · omega
        · congr 1
          omega
  · simp only [List.pairwise_cons, List.mem_cons, List.not_mem_nil, or_false, forall_eq_or_imp, forall_eq, List.Pairwise.nil, and_true, false_implies, implies_true]
    omega
  · simp only [List.mem_cons, List.not_mem_nil, or_false, forall_eq_or_imp, forall_eq]
    omega
/-- the number of a choice of places -/
noncomputable def sumPow (qs : List Nat) : Nat := (qs.map fun q => 2 ^ q).sum
theorem sumPow_snoc (qs : List Nat) (q : Nat) : sumPow (qs ++ [q]) = sumPow qs + 2 ^ q := by
  unfold sumPow; rw [List.map_append, List.sum_append]; simp
theorem sumPow_bits : ∀ (n : Nat) (qs : List Nat), qs.length = n → qs.Pairwise (· < ·) → (∀ q ∈ qs, sumPow qs < 2 ^ (q + 1) ∨ ∃ r ∈ qs, q < r) ∧ (∀ m, (∀ q ∈ qs, q < m) → sumPow qs < 2 ^ m) ∧ ∀ i, (sumPow qs).testBit i = true → i ∈ qs
  | 0, qs, h, _ => by
    obtain rfl := List.length_eq_zero_iff.mp h
    exact ⟨fun _ h => (by cases h), fun m _ => Nat.two_pow_pos m, fun i hi => by simp [sumPow] at hi⟩
  | n + 1, qs, h, hp => by
    rcases List.eq_nil_or_concat qs with rfl | ⟨l, q, rfl⟩
    · cases h
    · rw [List.concat_eq_append] at h hp ⊢
      have hp' := List.pairwise_append.mp hp
      have hlt : ∀ r ∈ l, r < q := fun r hr => hp'.2.2 r hr q (by simp)
      obtain ⟨_, i2, i3⟩ := sumPow_bits n l (by rw [List.length_append] at h; simpa using h) hp'.1
      have hs := i2 q hlt
      rw [sumPow_snoc]
      refine ⟨fun r hr => ?_, fun m hm => ?_, fun i hi => ?_⟩
      · rcases List.mem_append.mp hr with hr | hr
        · exact .inr ⟨q, by simp, hlt r hr⟩
        · rw [List.mem_singleton.mp hr, Nat.pow_succ]; exact .inl (by omega)
      · have hq := hm q (by simp)
        have : 2 ^ (q + 1) ≤ 2 ^ m := Nat.pow_le_pow_right (by decide) hq
        rw [Nat.pow_succ] at this; omega
      · rw [add_bit q _ (low_bit hs)] at hi
        by_cases e : q = i
        · subst e; simp
        · rw [flip_other _ e] at hi
          exact List.mem_append_left _ (i3 i hi)
theorem sumPow_ok (qs : List Nat) (hp : qs.Pairwise (· < ·)) (h16 : ∀ q ∈ qs, q < 16) : sumPow qs < 65536 ∧ ∀ i, (sumPow qs).testBit i = true → i ∈ qs :=
  let ⟨_, a, b⟩ := sumPow_bits _ qs rfl hp
  ⟨a 16 h16, b⟩
/-- which of the four places a drawn number takes -/
noncomputable def tb (x : Int) (j : Nat) : Bool := decide ((x.fdiv (2 ^ j)).fmod 2 = 1)
noncomputable def pick (ps : List Nat) (x : Int) (i : Nat) : List Nat := ((List.range i).filter (tb x)).map fun j => ps.getD j 0
theorem pick_sub (ps : List Nat) (x : Int) (hp4 : ps.length = 4) : (pick ps x 4).Sublist ps := by
  have e : ps = (List.range 4).map fun j => ps.getD j 0 := by
    apply List.ext_getElem?
    intro i
    rw [List.getElem?_map]
    by_cases h : i < 4
    · rw [List.getElem?_range h, List.getElem?_eq_getElem (by omega)]
      simp [List.getD_eq_getElem?_getD, List.getElem?_eq_getElem (show i < ps.length by omega)]
    · rw [List.getElem?_eq_none (by omega), List.getElem?_eq_none (by simp; omega)]; rfl
  conv => rhs; rw [e]
  exact List.Sublist.map _ List.filter_sublist
noncomputable def memF (ps : List Nat) (x : Int) : Nat := sumPow (pick ps x 4)
theorem memF_ok (ps : List Nat) (x : Int) (hp4 : ps.length = 4) (hp : ps.Pairwise (· < ·)) (h16 : ∀ q ∈ ps, q < 16) : memF ps x < 65536 ∧ ∀ i, (memF ps x).testBit i = true → i ∈ ps := by
  have hs := pick_sub ps x hp4
  obtain ⟨a, b⟩ := sumPow_ok (pick ps x 4) (hp.sublist hs) (fun q hq => h16 q (hs.subset hq))
  exact ⟨a, fun i hi => hs.subset (b i hi)⟩
theorem sum_cast : ∀ qs : List Nat, (qs.map fun q => (2 : Int) ^ q).sum = ((sumPow qs : Nat) : Int)
  | [] => rfl
  | q :: r => by
    have := sum_cast r
    unfold sumPow at this ⊢
    rw [List.map_cons, List.sum_cons, List.map_cons, List.sum_cons, this]
    push_cast; rfl
structure MemOk (ps ms : List Nat) (j : Nat) : Prop where
  nodup : ms.Nodup
  len : ms.length ≤ j
  bits : ∀ M ∈ ms, ∀ i, M.testBit i = true → i ∈ ps
  small : ∀ M ∈ ms, M < 65536
theorem MemOk.add {ps ms : List Nat} {j : Nat} (k : MemOk ps ms j) {F : Nat} (hF : F ∉ ms) (h1 : F < 65536) (h2 : ∀ i, F.testBit i = true → i ∈ ps) : MemOk ps (ms ++ [F]) (j + 1) where
  nodup := by
    rw [List.nodup_append]
    exact ⟨k.nodup, by simp, fun a ha b hb e => hF (by rw [List.mem_singleton] at hb; rw [← hb, ← e]; exact ha)⟩
  len := by rw [List.length_append, List.length_singleton]; have := k.len; omega
  bits := fun M hM => by
    rcases List.mem_append.mp hM with h | h
    · exact k.bits M h
    · rw [List.mem_singleton.mp h]; exact h2
  small := fun M hM => by
    rcases List.mem_append.mp hM with h | h
    · exact k.small M h
    · rw [List.mem_singleton.mp h]; exact h1
end
section
open PySem PySem.W PyProof.Rows PySem.Calls
open Builtin
theorem utf8_ascii {final : Bool} {b : Array UInt8} {p : Nat} (h : (b.getD p 0).toNat < 128) : _codecs.utf8Decoder.find final b p = .text [(b.getD p 0).toNat] (p + 1) := by
  have e : Bytes.utf8At b p = (.char (b.getD p 0).toNat, p + 1) := by
    unfold Bytes.utf8At
    simp only [show (b.getD p 0).toNat < 0x80 from h, if_true]
  unfold _codecs.utf8Decoder
  simp only [e]; rfl
theorem run_ascii (id : String) (b : Array UInt8) (hb : ∀ p, p < b.size → (b.getD p 0).toNat < 128) (h4 : b.size ≤ 4) : _codecs.runDecoder id _codecs.utf8Decoder none true b 0 [] = pure ((b.toList.map (·.toNat)).toArray, b.size) := by
  obtain ⟨l⟩ := b
  rcases l with _ | ⟨c0, _ | ⟨c1, _ | ⟨c2, _ | ⟨c3, _ | ⟨c4, l⟩⟩⟩⟩⟩
  · unfold _codecs.runDecoder
    simp
  · have h0 := utf8_ascii (final := true) (hb 0 (by simp))
    unfold _codecs.runDecoder
    simp [List.range', h0, PySem.sizeLine_eq]
  · have h0 := utf8_ascii (final := true) (hb 0 (by simp))
    have h1 := utf8_ascii (final := true) (hb 1 (by simp))
    unfold _codecs.runDecoder
    simp [List.range', h0, h1, PySem.sizeLine_eq]
  · have h0 := utf8_ascii (final := true) (hb 0 (by simp))
    have h1 := utf8_ascii (final := true) (hb 1 (by simp))
    have h2 := utf8_ascii (final := true) (hb 2 (by simp))
    unfold _codecs.runDecoder
    simp [List.range', h0, h1, h2, PySem.sizeLine_eq]
  · have h0 := utf8_ascii (final := true) (hb 0 (by simp))
    have h1 := utf8_ascii (final := true) (hb 1 (by simp))
    have h2 := utf8_ascii (final := true) (hb 2 (by simp))
    have h3 := utf8_ascii (final := true) (hb 3 (by simp))
    unfold _codecs.runDecoder
    simp [List.range', h0, h1, h2, h3, PySem.sizeLine_eq]
  · simp at h4
theorem run_ap (id : String) {l : List Nat} (hl : ∀ c ∈ l, 65 ≤ c ∧ c < 81) (h4 : l.length ≤ 4) : _codecs.runDecoder id _codecs.utf8Decoder none true (bytesOf l) 0 [] = pure ((strOf l).cps, (bytesOf l).size) := by
  have hm : ((bytesOf l).toList.map (·.toNat)) = l := by
    unfold bytesOf
    rw [List.map_map]
    conv => rhs; rw [← List.map_id l]
    apply List.map_congr_left
    intro c hc
    have := hl c hc
    show (UInt8.ofNat c).toNat = c
    rw [UInt8.toNat_ofNat']
    omega
  have hs : (bytesOf l).size = l.length := by unfold bytesOf; simp
  rw [run_ascii id (bytesOf l) ?_ (by rw [hs]; exact h4), hm]
  · rfl
  · intro p hp
    have hp' : p < l.length := by rw [← hs]; exact hp
    have e : ((bytesOf l).getD p 0).toNat = l[p] := by
      have : ((bytesOf l).toList.map (·.toNat))[p]? = some l[p] := by rw [hm]; exact List.getElem?_eq_getElem _
      rw [List.getElem?_map] at this
      cases hc : (bytesOf l).toList[p]? with
      | none => rw [hc] at this; cases this
      | some c =>
        rw [hc] at this
        have h2 : c.toNat = l[p] := Option.some.inj this
        rw [← h2]
        rw [Array.getElem?_toList] at hc
        rw [Array.getD_eq_getD_getElem?, hc]; rfl
    rw [e]
    have := hl l[p] (List.getElem_mem _)
    omega
theorem decode_empty_eq {t : Tok} : «bytes.decode» ⟨[.bytes #[] t], []⟩ = (rule "bytes.decode.empty" >>= fun _ => retStr Str.empty) := by kernel_rfl
section
variable {prog : Program} {w : World} {A : Around} {E : Value → Shared → Prop} {s : Shared} {t : Tok} {Q : Value → Shared → Prop}
theorem decode_empty (h : ∀ t' k, Q (.str Str.empty t') { s with toks := k }) : wpAny (model prog w) A (call (.builtin "bytes.decode") [.bytes #[] t]) Q E s := by
  refine wpAny_call_entry FB.slot_bytes_decode (typeIs_bytes _ _ _) FB.entry_bytes_decode ?_ (FB.args_bytes_decode_1 _)
  rw [decode_empty_eq]
  refine wpAny_bind (wpAny_rule ?_)
  exact wpAny_bind (wpAny_mkStr (wpAny_pure ⟨_, rfl, h _ _⟩) (by decide))
theorem decode_ap {l : List Nat} (hl : ∀ c ∈ l, 65 ≤ c ∧ c < 81) (h4 : l.length ≤ 4) (h : ∀ t' k, Q (.str (strOf l) t') {s with toks := k}) : wpAny (model prog w) A (call (.builtin "bytes.decode") [.bytes (bytesOf l) t]) Q E s := by
  cases l with
  | nil => exact decode_empty h
  | cons c r => 
    have hr := fun id => run_ap id hl h4
    exact KBd.decode (n := (bytesOf (c :: r)).size) (x := strOf (c :: r)) hr (by rw [strOf_length]; omega) h
end
end
section
theorem lay0x : ∀ x ∈ [Str.ofString "0x0"], PyData.canLay0 (.str x) = true := by decide +kernel
inductive ServRet (w : World) (a : LexA) (line : Int) (items : Array Value) (pos : Int) (f : Tok → Value) : Value → List (Addr × Obj) → Prop
  | mk (tl : Tok) (n : Nat) (tp : Tok) (np : Nat) (t : Tok) : ServRet w a line items pos f (f t) (lexN w a line tl items n pos tp np)
set_option autoImplicit false in
theorem ServRet.all {w : World} {a : LexA} {line : Int} {items : Array Value} {pos : Int} {f : Tok → Value} {P : Value → List (Addr × Obj) → Prop} (h : ∀ (tl : Tok) (n : Nat) (tp : Tok) (np : Nat) (t : Tok), P (f t) (lexN w a line tl items n pos tp np)) : ∀ (x0 : Value) (x1 : List (Addr × Obj)), ServRet w a line items pos f x0 x1 → P x0 x1 :=
  fun _ _ t => ServRet.rec (motive := fun x0 x1 _ => P x0 x1) h t
theorem ServRet.of {w : World} {a : LexA} {line : Int} {items : Array Value} {pos : Int} {f : Tok → Value} {v : Value} {nw : List (Addr × Obj)} {t : Tok} (tl : Tok) (n : Nat) (tp : Tok) (np : Nat) (h : nw = lexN w a line tl items n pos tp np) (e : v = f t) : ServRet w a line items pos f v nw := by
  subst h e
  exact .mk tl n tp np t
noncomputable def Serves (w : World) (a : LexA) (words : List (List Nat)) (line : Nat → Int) (items : Nat → Array Value) (pos : Nat → Int) : Prop :=
  ∀ (i : Nat) (word : List Nat), words[i]? = some word → ∀ (tl : Tok) (n : Nat) (tp : Tok) (np : Nat) (p : Program) (loose : List Str) (mean : ExcName → Option Value) (mg mb : Str → Option Value),
    Claim w p loose mean mg mb 57 5 (lexN w a (line i) tl (items i) n (pos i) tp np) [.ref a.lx] (fun _ => True) (ServRet w a (line (i + 1)) (items (i + 1)) (pos (i + 1)) fun t' => .str (strOf word) t')
section
set_option inductive.autoPromoteIndices false in
set_option autoImplicit false in
inductive LineJ (L' : Addr) (w : World) (a : LexA) (words : List (List Nat)) (line : Nat → Int) (items : Nat → Array Value) (pos : Nat → Int) (oN oX : Obj) (mem plc : Addr) (mv pv : List Value) (nm nq : Nat) (i : Nat) (ys : List Value) : List (Addr × Obj) → Prop
  | mk (tl : Tok) (n : Nat) (tp : Tok) (np : Nat) (c0 : StrsAre ys ((words.take i).map strOf)) : LineJ L' w a words line items pos oN oX mem plc mv pv nm nq i ys ([(L' + 1 + 1, oN), (L' + 1, oX)] ++ (lexN w a (line i) tl (items i) n (pos i) tp np ++ [(mem, W.listOf mv.toArray nm), (plc, W.listOf pv.toArray nq)]))
set_option autoImplicit false in
theorem LineJ.all {L' : Addr} {w : World} {a : LexA} {words : List (List Nat)} {line : Nat → Int} {items : Nat → Array Value} {pos : Nat → Int} {oN : Obj} {oX : Obj} {mem : Addr} {plc : Addr} {mv : List Value} {pv : List Value} {nm : Nat} {nq : Nat} {i : Nat} {ys : List Value} {P : List (Addr × Obj) → Prop} (h : ∀ (tl : Tok) (n : Nat) (tp : Tok) (np : Nat) (c0 : StrsAre ys ((words.take i).map strOf)), P ([(L' + 1 + 1, oN), (L' + 1, oX)] ++ (lexN w a (line i) tl (items i) n (pos i) tp np ++ [(mem, W.listOf mv.toArray nm), (plc, W.listOf pv.toArray nq)]))) : ∀ (x0 : List (Addr × Obj)), LineJ L' w a words line items pos oN oX mem plc mv pv nm nq i ys x0 → P x0 :=
  fun _ t => LineJ.rec (motive := fun x0 _ => P x0) h t
set_option inductive.autoPromoteIndices false in
set_option autoImplicit false in
inductive PushedI (g : Heap) (L' : Addr) (s : Shared) (w : World) (a : LexA) (words : List (List Nat)) (res : List Nat) (line : Nat → Int) (pos : Nat → Int) (pp : Nat) (tp0 : Tok) (D z TI TO i1 i2 : Addr) (oX : Obj) (ys : List Value) (mem plc : Addr) (mv pv : List Value) (nm nq : Nat)  : Nat → Shared → Prop
  | mk (j : Nat) (z1 : Obj) (z2 : Obj) (oN : Obj) (va : Value) (vb : Value) (cv : Option Value) (vs : List Value) (h : Heap) (tk : Nat) (u : Str → Option Value) (tl : Tok) (n : Nat) (tp : Tok) (np : Nat) (c0 : j ≤ words.length) (c1 : IsIt z1 D j) (c2 : IsIt z2 mem j) (c3 : oN.data = .cell cv) (c4 : Fr g L' h (fun z => if z = Str.ofString "line" then some (.ref D) else if z = Str.ofString "places" then some (.ref plc) else if z = Str.ofString "p" then some (.int (pp : Int) tp0) else u z)) (c5 : News g L' h (zipN z TI TO i1 i2 va vb z1 z2 ++ ((D, LCg.lst ys) :: (L' + 1 + 1, oN) :: (L' + 1, oX) :: (lexN w a (line words.length) tl vs.toArray n (pos words.length) tp np ++ [(mem, W.listOf mv.toArray nm), (plc, W.listOf pv.toArray nq)])))) (c6 : StrsAre vs ((res.take j).map (fun F => strOf (apL F)))) : PushedI g L' s w a words res line pos pp tp0 D z TI TO i1 i2 oX ys mem plc mv pv nm nq (words.length - j) ({ s with heap := h, toks := tk })
set_option autoImplicit false in
theorem PushedI.all {g : Heap} {L' : Addr} {s : Shared} {w : World} {a : LexA} {words : List (List Nat)} {res : List Nat} {line : Nat → Int} {pos : Nat → Int} {pp : Nat} {tp0 : Tok} {D : Addr} {z : Addr} {TI : Addr} {TO : Addr} {i1 : Addr} {i2 : Addr} {oX : Obj} {ys : List Value} {mem : Addr} {plc : Addr} {mv : List Value} {pv : List Value} {nm : Nat} {nq : Nat} {P : Nat → Shared → Prop} (h : ∀ (j : Nat) (z1 : Obj) (z2 : Obj) (oN : Obj) (va : Value) (vb : Value) (cv : Option Value) (vs : List Value) (h : Heap) (tk : Nat) (u : Str → Option Value) (tl : Tok) (n : Nat) (tp : Tok) (np : Nat) (c0 : j ≤ words.length) (c1 : IsIt z1 D j) (c2 : IsIt z2 mem j) (c3 : oN.data = .cell cv) (c4 : Fr g L' h (fun z => if z = Str.ofString "line" then some (.ref D) else if z = Str.ofString "places" then some (.ref plc) else if z = Str.ofString "p" then some (.int (pp : Int) tp0) else u z)) (c5 : News g L' h (zipN z TI TO i1 i2 va vb z1 z2 ++ ((D, LCg.lst ys) :: (L' + 1 + 1, oN) :: (L' + 1, oX) :: (lexN w a (line words.length) tl vs.toArray n (pos words.length) tp np ++ [(mem, W.listOf mv.toArray nm), (plc, W.listOf pv.toArray nq)])))) (c6 : StrsAre vs ((res.take j).map (fun F => strOf (apL F)))), P (words.length - j) ({ s with heap := h, toks := tk })) : ∀ (x0 : Nat) (x1 : Shared), PushedI g L' s w a words res line pos pp tp0 D z TI TO i1 i2 oX ys mem plc mv pv nm nq x0 x1 → P x0 x1 :=
  fun _ _ t => PushedI.rec (motive := fun x0 x1 _ => P x0 x1) h t
inductive PushedRet (w : World) (a : LexA) (res : List Nat) (line : Int) (pos : Int) (mem plc : Addr) (mv pv : List Value) (nm nq : Nat) : Value → List (Addr × Obj) → Prop
  | mk (vs : List Value) (tl' : Tok) (n' : Nat) (tp' : Tok) (np' : Nat) (h : StrsAre vs (res.map (fun F => strOf (apL F)))) : PushedRet w a res line pos mem plc mv pv nm nq (.bool true) (lexN w a line tl' vs.toArray n' pos tp' np' ++ [(mem, W.listOf mv.toArray nm), (plc, W.listOf pv.toArray nq)])
set_option autoImplicit false in
theorem PushedRet.all {w : World} {a : LexA} {res : List Nat} {line : Int} {pos : Int} {mem : Addr} {plc : Addr} {mv : List Value} {pv : List Value} {nm : Nat} {nq : Nat} {P : Value → List (Addr × Obj) → Prop} (h : ∀ (vs : List Value) (tl' : Tok) (n' : Nat) (tp' : Tok) (np' : Nat) (h : StrsAre vs (res.map (fun F => strOf (apL F)))), P (.bool true) (lexN w a line tl' vs.toArray n' pos tp' np' ++ [(mem, W.listOf mv.toArray nm), (plc, W.listOf pv.toArray nq)])) : ∀ (x0 : Value) (x1 : List (Addr × Obj)), PushedRet w a res line pos mem plc mv pv nm nq x0 x1 → P x0 x1 :=
  fun _ _ t => PushedRet.rec (motive := fun x0 x1 _ => P x0 x1) h t
theorem words_pushed_spec : True := by
  w_top off
  k_with_none
  k_with "mine ktr_room" => ((try simp only [depth_under_make, depth_under_kw, depth_in1, depth_deeper, depth_caller]); (try dsimp only [ktrTop]); first | decide | omega)
  k_with "mine ktr_units" => ((try simp only [units_in1, units_deeper, Around.mark_units, units_caller]); (try dsimp only [ktrTop]); first | (rw [cLine_is]; decide) | omega)
  k_with "mine call by" => ((case k1 => k_asm); (case k2 => kn_code); (case k3 => k_asm); (case k4 => k_asm); (case k5 => (refine' News.subs ?k51 ?k52; (case k51 => k_asm); (case k52 => ((repeat (refine List.forall_mem_cons.mpr (And.intro (by k_mem) ?_))); exact fun _ h => nomatch h)))); (case k6 => k_asm); (case k7 => first | exact rfl | assumption); (case k8 => ktr_room); (case k9 => ktr_units); (case kp => first | exact trivial | assumption))
  k_with "binaryOp Add str str" => (refine PyProof.Rows.add_str (hsz := ?hszq) ?_; (case hszq => assumption); intro _ _)
  k_with "call builtin:hex" => (refine P.hex_of_int ?_ (hsz := ?hszq); (case hszq => assumption))
  k_with "call builtin:list.append" => (k_here; (with_reducible show wpAny _ _ (call (Value.builtin _) [Value.ref _, _]) _ _ _); k_dflt (refine' append_K ?k1 ?k2 ?k3 ?_ ?z; (case k1 => k_asm); (case k2 => k_asm); (case k3 => k_upd); (case z => assumption); k_whole); intro h9w F9w N9w; (try k_sweep))
  k_with "call builtin:dict.get" => (k_here; k_dflt (refine' flag_get ?k1 ?k2 ?k3 ?k4 ?_; (case k1 => k_asm); (case k2 => exact Fr.keep (by with_reducible assumption)); (case k3 => assumption); (case k4 => assumption)); intro t9w tk9w)
  k_with "exec For Name Call cons nil" => (refine for_raw ?_)
  k_with "exec For Name Call cons cons" => (refine for_raw ?_)
  k_with "exec For Name Name cons nil" => (refine for_raw ?_)
  k_with "exec For Name Subscript cons nil" => (refine for_raw ?_)
  k_with "exec While Name cons nil" => (refine Stop.out ?_)
  k_with "subscriptTail" => (k_here; (with_reducible show wpAny _ _ (subscriptTail _ (Expr.Slice _ _ none _) (Value.bytes _ _) (Value.ref _)) _ _ _); (with_reducible rename Fr _ _ _ _ => F9w); (with_reducible rename News _ _ _ _ => N9w); (refine KBy.slice_N (s := ⟨_, _, _, _, _⟩) F9w N9w (by constructor) (by constructor) (by assumption) (by assumption) ?_); intro _ _ _ _ _)
  k_with "binaryOp Add bytes bytes" => (k_here; (with_reducible show wpAny _ _ (binaryOp Operator.Add (Value.bytes _ _) (Value.bytes _ _)) _ _ _); (refine KBy.add_bytes (by assumption) ?_); intro _ _)
  k_with "mine enter" => (k_dflt (refine' enter_plain ?k1 ?k2 ?k3 ?k4 ?k5 ?kA ?kF ?kK ?k6 ?k7 ?k8 ?k9 ?kB ?hr ?_ ?c2 ?c3 ?c4 ?c5; (case kA => exact rfl); (case kF => exact rfl); (case kK => assumption); (case k1 => k_asm); (case k2 => k_asm); (case k3 => k_asm); (case k4 => k_asm); (case k5 => k_asm); (case k6 => k_is); (case k7 => k_is); (case k8 => ktr_room); (case k9 => exact BindsTo.of_eq rfl); (case c5 => decide); (case kB => exact locs rfl); (case hr => assumption); (case c2 => exact rfl); (case c3 => exact rfl); (case c4 => exact rfl); k_whole))
  k_with "mine cells" => (k_dflt (refine' enter_cells ?k1 ?k2 ?k3 ?k4 ?k5 ?kA ?kF ?kK ?k6 ?k7 ?k8 ?k9 ?kB ?kD ?hr ?_ ?c2 ?c3 ?c4; (case kA => exact rfl); (case kF => exact rfl); (case kK => assumption); (case k1 => k_asm); (case k2 => k_asm); (case k3 => k_asm); (case k4 => k_asm); (case k5 => k_asm); (case k6 => k_is); (case k7 => k_is); (case k8 => ktr_room); (case k9 => exact BindsTo.of_eq rfl); (case kB => exact rfl); (case kD => decide +kernel); (case hr => assumption); (case c2 => exact rfl); (case c3 => exact rfl); (case c4 => exact rfl); k_whole))
  k_with "mine made" => (k_dflt (refine' enter_made ?k1 ?k2 ?k3 ?k4 ?k5 ?kA ?kF ?kK ?k6 ?kd ?k7 ?k8 ?k9 ?kB ?hr ?_ ?c2 ?c3 ?c4 ?c5; (case kA => exact rfl); (case kF => exact rfl); (case kK => assumption); (case k1 => k_asm); (case k2 => k_asm); (case k3 => k_asm); (case k4 => k_asm); (case k5 => k_asm); (case k6 => k_mem); (case kd => exact rfl); (case k7 => exact codeRec_news (by k_asm) (by k_mem) (by assumption) (by assumption)); (case k8 => ktr_room); (case k9 => exact BindsTo.of_eq rfl); (case c5 => decide); (case kB => exact locs rfl); (case hr => assumption); (case c2 => exact rfl); (case c3 => exact rfl); (case c4 => exact rfl); k_whole))
  k_with "subscriptTail" => (k_here; (with_reducible show wpAny _ _ (subscriptTail _ (Expr.Slice _ _ none _) (Value.str _ _) (Value.ref _)) _ _ _); (with_reducible rename Fr _ _ _ _ => F9w); (with_reducible rename News _ _ _ _ => N9w); (first
  | ((with_reducible show wpAny _ _ (subscriptTail _ (Expr.Slice (some _) (some _) none _) _ _) _ _ _); (refine slice_strN_ss (hsz := ?hsz) (s := ⟨_, _, _, _, _⟩) F9w N9w ?_); (case hsz => assumption))
  | ((with_reducible show wpAny _ _ (subscriptTail _ (Expr.Slice none (some _) none _) _ _) _ _ _); (refine slice_strN_ns (hsz := ?hsz) (s := ⟨_, _, _, _, _⟩) F9w N9w ?_); (case hsz => assumption))); intro _ _ _ _ _)
  k_with "call builtin:len" => (k_here; (with_reducible show wpAny _ _ (call (Value.builtin "len") [Value.str _ _]) _ _ _); refine PyProof.Rows.len_str ?hfit ?_; (case hfit => first | exact len_fitS (by assumption) | exact len_fits (by assumption)))
  k_with "exec For Name Name cons cons" => (refine for_raw ?_)
  k_with "call builtin:iter" => (k_here; (with_reducible show wpAny _ _ (call (Value.builtin _) [Value.ref _, Value.str _ _]) _ _ _); k_dflt (refine' call_iter2 ?k1 ?k2 ?k3 ?_; (case k1 => k_asm); (case k2 => k_asm); (case k3 => k_mem); k_whole); intro it9w h9w F9w N9w l9w G9w; (try k_lt l9w))
  k_with "inplaceOp Add str str" => (refine PyProof.Rows.iadd_str (hsz := ?hszi) ?_; (case hszi => assumption); intro _ _)
  k_with "call type:enumerate" => (k_here; k_dflt (refine' call_enum ?k1 ?k2 ?k3 ?_; (case k1 => k_asm); (case k2 => k_asm); (case k3 => k_mem); k_whole))
  k_with "call builtin:str.split" => (refine Stop.out ?_)
  k_with "eval ListComp" => (refine Stop.out ?_)
  k_with "call type:zip" => (k_here; k_dflt (refine' call_zip ?k1 ?k2 ?k3 ?k4 ?_; (case k1 => k_asm); (case k2 => k_asm); (case k3 => k_mem); (case k4 => k_mem); k_whole))
  k_with "exec For Tuple Call cons nil" => (refine for_pair ?_)
  k_with "exec For Tuple Call cons cons" => (refine for_pair ?_)
  k_with "setItem ref int" => (k_here; k_dflt (refine' set_list ?F ?N ?k ?U ?_; (case F => k_asm); (case N => k_asm); (case U => k_upd); (case k => assumption)); intro h9w F9w N9w; (try dsimp only [List.nil_append, List.cons_append] at N9w))
  k_with "call builtin:list.insert" => (k_here; (with_reducible show wpAny _ _ (call (Value.builtin _) [Value.ref _, Value.int _ _, _]) _ _ _); k_dflt (refine' ins_list ?F ?N ?k ?U ?_; (case F => k_asm); (case N => k_asm); (case U => k_upd); (case k => assumption)); intro h9w F9w N9w; (try dsimp only [List.nil_append, List.cons_append] at N9w))
  k_with "call builtin:str.split" => (refine Stop.out ?_)
  k_with "eval ListComp" => (refine Stop.out ?_)
  k_with "call type:zip" => (refine Stop.out ?_)
  k_with "truthy ref" => (k_here; k_dflt (refine' wpAny_truthy_list (News.isList ?N ?m) ?f ?_; (case N => k_asm); (case m => k_mem); (case f => assumption)); (try simp only [List.isEmpty_toArray, List.isEmpty_cons, List.isEmpty_nil, Bool.not_false, Bool.not_true]))
  k_with "call builtin:bytes.decode" => (refine Stop.out ?_)
  k_with "compareOp NotEq ref ref" => (refine Stop.out ?_)
  k_with "compareOp In str ref" => (refine Stop.out ?_)
  k_with "compareOp NotIn str ref" => (refine Stop.out ?_)
  k_with "CompSrcT" => (refine Stop.out ?_)
  k_with "CompSrc" => (refine Stop.out ?_)
  k_with "exec Assign cons ListComp" => (refine Stop.out ?_)
  k_with "call ref" => (refine Stop.out ?_)
  k_with "lt0" => (first | with_reducible assumption | exact And.left (by with_reducible assumption) | exact And.left (And.right (by with_reducible assumption)) | exact And.left (And.right (And.right (by with_reducible assumption))) | exact And.left (And.right (And.right (And.right (by with_reducible assumption)))) | exact And.left (And.right (And.right (And.right (And.right (by with_reducible assumption))))) | exact And.left (And.right (And.right (And.right (And.right (And.right (by with_reducible assumption)))))) | exact And.left (And.right (And.right (And.right (And.right (And.right (And.right (by with_reducible assumption))))))) | exact And.left (And.right (And.right (And.right (And.right (And.right (And.right (And.right (by with_reducible assumption)))))))) | exact And.left (And.right (And.right (And.right (And.right (And.right (And.right (And.right (And.right (by with_reducible assumption))))))))) | exact And.left (And.right (And.right (And.right (And.right (And.right (And.right (And.right (And.right (And.right (by with_reducible assumption)))))))))) | exact And.left (And.right (And.right (And.right (And.right (And.right (And.right (And.right (And.right (And.right (And.right (by with_reducible assumption))))))))))) | exact And.left (And.right (And.right (And.right (And.right (And.right (And.right (And.right (And.right (And.right (And.right (And.right (by with_reducible assumption)))))))))))) | exact And.right (by with_reducible assumption) | exact And.right (And.right (by with_reducible assumption)) | exact And.right (And.right (And.right (by with_reducible assumption))) | exact And.right (And.right (And.right (And.right (by with_reducible assumption)))) | exact And.right (And.right (And.right (And.right (And.right (by with_reducible assumption))))) | exact And.right (And.right (And.right (And.right (And.right (And.right (by with_reducible assumption)))))) | exact And.right (And.right (And.right (And.right (And.right (And.right (And.right (by with_reducible assumption))))))) | exact And.right (And.right (And.right (And.right (And.right (And.right (And.right (And.right (by with_reducible assumption)))))))) | exact And.right (And.right (And.right (And.right (And.right (And.right (And.right (And.right (And.right (by with_reducible assumption))))))))) | exact And.right (And.right (And.right (And.right (And.right (And.right (And.right (And.right (And.right (And.right (by with_reducible assumption)))))))))) | exact And.right (And.right (And.right (And.right (And.right (And.right (And.right (And.right (And.right (And.right (And.right (by with_reducible assumption))))))))))) | exact nat_lt1 _)
  k_with "ch" => (first | with_reducible assumption | (refine Nat.lt_trans (by with_reducible assumption) ?_; k_extra "ch"))
  k_with "lt" => (first | k_extra "lt0" | exact nat_ltS (by k_extra "lt0") | exact nat_ltS (nat_ltS (by k_extra "lt0")) | exact nat_ltS (nat_ltS (nat_ltS (by k_extra "lt0"))) | exact nat_ltS (nat_ltS (nat_ltS (nat_ltS (by k_extra "lt0")))) | exact nat_ltS (nat_ltS (nat_ltS (nat_ltS (nat_ltS (by k_extra "lt0"))))) | exact nat_ltS (nat_ltS (nat_ltS (nat_ltS (nat_ltS (nat_ltS (by k_extra "lt0")))))) | exact nat_ltS (nat_ltS (nat_ltS (nat_ltS (nat_ltS (nat_ltS (nat_ltS (by k_extra "lt0"))))))) | exact nat_ltS (nat_ltS (nat_ltS (nat_ltS (nat_ltS (nat_ltS (nat_ltS (nat_ltS (by k_extra "lt0")))))))) | k_extra "ch")
  k_with "omega" => (first
    | with_reducible assumption
    | exact Nat.ne_of_lt (by with_reducible assumption) | exact Nat.ne_of_gt (by with_reducible assumption)
    | exact nat_room2 (by with_reducible assumption) (by rfl) | exact nat_room1 (by with_reducible assumption) (by rfl) | exact nat_room3 (by with_reducible assumption) (by rfl) | exact nat_room0 (by with_reducible assumption)
    | exact nat_meas (by with_reducible assumption) | exact nat_meas (Nat.lt_succ_of_lt (by with_reducible assumption))
    | exact c_low (by with_reducible assumption) (by rfl) | exact c_high (by with_reducible assumption) (by rfl) | exact c_lt (by with_reducible assumption) (by rfl)
    | exact Nat.succ_le_of_lt (by with_reducible assumption) | exact Nat.lt_succ_of_le (by with_reducible assumption)
    | exact Int.ofNat_lt.mpr (by with_reducible assumption)
    | exact Nat.ne_of_lt (by k_extra "lt") | exact Nat.ne_of_gt (by k_extra "lt") | k_extra "lt"
    | exact Nat.le_trans (by with_reducible assumption) (by decide)
    | decide)
  exact True.intro
set_option maxRecDepth 100000 in
set_option maxHeartbeats 8000000 in
theorem pushed_spec (w : World) (a : LexA) (ho : a.Ordered) (p : Program) (loose : List Str) (mean : ExcName → Option Value) (mg mb : Str → Option Value)
   (words : List (List Nat)) (line : Nat → Int) (items : Nat → Array Value) (pos : Nat → Int) (pp : Nat) (hs : Serves w a words line items pos) (tl : Tok) (n : Nat) (tp : Tok) (np : Nat)
   (mem plc : Addr) (mv : List Value) (ms : List Nat) (hm : IntsAre mv (ms.map fun (x : Nat) => (x : Int))) (nm : Nat) (pv : List Value) (ps : List Nat) (hpv : IntsAre pv (ps.map fun (x : Nat) => (x : Int))) (nq : Nat) (tp0 : Tok) (hml : ms.length ≤ 7) (hp4 : ps.length = 4) (hp16 : ∀ q ∈ ps, q < 16) (hpp : pp ∈ ps) (hps : ps.Pairwise (· < ·)) (hwl : words.length = ms.length) (hit : items words.length = #[]) (nums res : List Nat) (hrl : res.length = nums.length) (hwn : words = nums.map apL) (hfp : ∀ F ∈ nums, ∀ i, F.testBit i = true → i ∈ ps) (hn16 : ∀ F ∈ nums, F < 65536) (hshift : ∀ (j F : Nat), nums[j]? = some F → res[j]? = some (if F.testBit pp = true ∧ F - 2 ^ pp ∉ nums then F - 2 ^ pp else F)) (hand : ∀ (i F M : Nat), nums[i]? = some F → ms[i]? = some M → F &&& M = F)
   (om : offLex a mem) (op : offLex a plc) :
   Claim w p loose mean mg mb 116 12 (lexN w a (line 0) tl (items 0) n (pos 0) tp np ++ [(mem, W.listOf mv.toArray nm), (plc, W.listOf pv.toArray nq)])
      [.ref a.lx, .ref mem, .ref plc, .int (pp : Int) tp0] (fun _ => True) (PushedRet w a res (line words.length) (pos words.length) mem plc mv pv nm nq) := by
  have ho' := ho
  obtain ⟨p0, p1, p2, p3, p4, p5, p6, p7, p8⟩ := ho'
  have hmv : mv.length = ms.length := by rw [ints_len hm, List.length_map]
  dsimp only [Claim, PR, lexN, List.cons_append, List.nil_append]
  k_fill
  intro dp un gd cn cs ca ccd cl outer A₀ base h₀ L m s Q E hB hC hF hX hN hT hk hd hu hp hret
  refine wpAny_call ?_
  walk_at "mine cells"
  intro g L' h1 tk cells FG F1 N1 Y1 B1 X1 T1 G1 l1
  try k_lt l1
  obtain ⟨oN, oX, hE', dN, dX⟩ := CellsAre.two Y1
  subst hE'
  clear Y1
  simp only [List.cons_append, List.nil_append] at N1
  refine id ?_
  (with_reducible show wpAny _ _ _ _ _ _)
  k_fold
  k_steps
  unfold Stop
  exact by
    refine LCg.Assign_ListComp_U (F₀ := by k_asm) (by rfl) (by with_unfolding_all rfl) (by with_unfolding_all rfl) (by decide) (by rfl) (by decide) (by rfl) (by rfl) (by rfl) ?_
    k_steps
    unfold Stop
    exact by
      refine LCg.CompSrc.ledger (by rfl) (by k_asm) (by k_asm) (ax := mem) (its := mv.toArray) (k := nm) (by k_mem) (by rw [List.size_toArray, PySem.sizeLine_eq]; omega) ?_
      intro g'
      refine comp_rest (LineJ L' w a words line items pos oN oX mem plc mv pv nm nq) ⟨tl, n, tp, np, .nil⟩ ?_ ?_
      · intro i v I oI C oC D m₂ h tk E' hi
        intro ys
        refine LineJ.all ?_
        rintro tl n tp np hy hv hoC hx F N off ne
        have hw : words[i]? = some (words[i]'(by rw [List.size_toArray] at hi; omega)) := List.getElem?_eq_getElem _
        have NL := N
        dsimp only [lexN, List.cons_append, List.nil_append] at N
        obtain ⟨oI3, oC3, oD3⟩ := off3_lex (front := [(L' + 1 + 1, oN), (L' + 1, oX)]) off
        k_steps
        unfold Stop
        exact by
          have hcall := hs i _ hw tl n tp np p loose mean mg mb
          dsimp only [lexN] at hcall
          k_call_by "mine" hcall
          refine ServRet.all ?_
          intro tl' n' tp' np' t' h2 tk2 F2 N2 G2 O2
          have N3 := lex_put (front := [(I, oI), (C, oC), (D, LCg.lst ys), (L' + 1 + 1, oN), (L' + 1, oX)]) (back := [(mem, W.listOf mv.toArray nm), (plc, W.listOf pv.toArray nq)]) (w := w) (a := a) (line' := line (i + 1)) (items' := items (i + 1)) (pos' := pos (i + 1)) (tl' := tl') (tp' := tp') (n' := n') (np' := np') NL G2 N2
            (List.forall_mem_cons.mpr ⟨oI3, List.forall_mem_cons.mpr ⟨oC3, List.forall_mem_cons.mpr ⟨oD3, List.forall_mem_cons.mpr ⟨offLex.above ho (by show @LT.lt Nat _ _ _; omega), List.forall_mem_cons.mpr ⟨offLex.above ho (by show @LT.lt Nat _ _ _; omega), fun _ h => nomatch h⟩⟩⟩⟩⟩)
            (List.forall_mem_cons.mpr ⟨om, List.forall_mem_cons.mpr ⟨op, fun _ h => nomatch h⟩⟩)
          refine comp_end (nw := [(L' + 1 + 1, oN), (L' + 1, oX)] ++ (lexN w a (line (i + 1)) tl' (items (i + 1)) n' (pos (i + 1)) tp' np' ++ [(mem, W.listOf mv.toArray nm), (plc, W.listOf pv.toArray nq)])) F2 N3 off (.inr ⟨W.listOf mv.toArray nm, by simp, rfl, nm, rfl⟩) (.mk tl' n' tp' np' ?_)
          rw [List.take_add_one, hw, Option.toList_some, List.map_append]
          exact hy.append' (.cons _ _ .nil)
      · intro ys
        refine LineJ.all ?_
        intro tl n tp np hy0
        have hsz : mv.toArray.size = words.length := by rw [List.size_toArray, hmv, hwl]
        rw [hsz, List.take_length] at hy0
        rw [hsz]
        intro D h tk F N off
        have NL := N
        dsimp only [lexN, List.cons_append, List.nil_append] at N
        k_steps
        unfold Stop
        exact by
          refine call_zip F N List.mem_cons_self (l2 := mem) (ys := mv.toArray) (n2 := nm) (by k_mem) ?_
          intro z TI TO i1 i2 z1 z2 h3 hz1 hz2 F3 N3 O3 of3
          have ofm : ∀ b ∈ ((D, LCg.lst ys) :: ([(L' + 1 + 1, oN), (L' + 1, oX)] ++ (lexN w a (line words.length) tl (items words.length) n (pos words.length) tp np ++ [(mem, W.listOf mv.toArray nm), (plc, W.listOf pv.toArray nq)]))).map (·.1), @LT.lt Nat _ b i1 := fun b hb => by
            obtain ⟨q, hq, rfl⟩ := List.mem_map.mp hb
            exact of3 q hq
          have ofq := ofm
          simp only [lexN, List.cons_append, List.nil_append, List.map_cons, List.map_nil, List.forall_mem_cons] at ofq
          obtain ⟨u1, u2, u3, u4, u5, u6, u7, u8, u9, u10, u11, u12, u13, u14, u15, _⟩ := ofq
          have ne1 : @Ne Nat D (L' + 1 + 1) := fun e => (off.1 : @Ne Nat (L' + 1 + 1) D) e.symm
          obtain ⟨v1, v2, v3, v4⟩ := id O3
          k_steps
          refine iter_zip N3 List.mem_cons_self ?_
          refine ⟨PushedI g L' s w a words res line pos pp tp0 D z TI TO i1 i2 oX ys mem plc mv pv nm nq, words.length, ?_, ?_⟩
          · rw [hit] at N3
            exact ⟨0, z1, z2, oN, _, _, _, [], h3, _, _, tl, n, tp, np, Nat.zero_le _, hz1, hz2, dN, fr_map3 F3 (Str.ofString "line") (Str.ofString "places") (Str.ofString "p") rfl rfl rfl, N3, .nil⟩
          · refine PushedI.all ?_
            intro j z1 z2 oN va vb cv vs h tk u tl n tp np hj hz1 hz2 dN F5 N5 hvs
            have hlist : ∀ q ∈ ((D, LCg.lst ys) :: (L' + 1 + 1, oN) :: (L' + 1, oX) :: (lexN w a (line words.length) tl vs.toArray n (pos words.length) tp np ++ [(mem, W.listOf mv.toArray nm), (plc, W.listOf pv.toArray nq)])), @LT.lt Nat _ q.1 i1 := fun q hq => ofm q.1 (by
              have := List.mem_map_of_mem (f := (·.1)) hq
              exact this)
            refine next_zip rfl hz1 hz2 F5 N5 O3 hlist List.mem_cons_self (l2 := mem) (ys := mv.toArray) (n2 := nm) (by simp) ?_ ?_
            · intro x y T z1' z2' h6 hx hy hz1' hz2' F6 N6 oT
              obtain ⟨xs, xt, hxs, rfl⟩ := strs_at hy0 (by simpa using hx)
              obtain ⟨m0, mt, hm0, rfl⟩ := ints_at hm (by simpa using hy)
              obtain ⟨F, hF, rfl⟩ : ∃ F, nums[j]? = some F ∧ xs = strOf (apL F) := by
                rw [hwn] at hxs
                simp only [List.getElem?_map] at hxs
                cases hc : nums[j]? with
                | none => rw [hc] at hxs; cases hxs
                | some F => rw [hc] at hxs; exact ⟨F, rfl, (Option.some.inj hxs).symm⟩
              obtain ⟨M, hM, rfl⟩ : ∃ M : Nat, ms[j]? = some M ∧ m0 = (M : Int) := by
                simp only [List.getElem?_map] at hm0
                cases hc : ms[j]? with
                | none => rw [hc] at hm0; cases hm0
                | some M => rw [hc] at hm0; exact ⟨M, rfl, (Option.some.inj hm0).symm⟩
              have hF16 := hn16 F (List.mem_of_getElem? hF)
              have hFM := hand j F M hF hM
              dsimp only [zipN, lexN, List.cons_append, List.nil_append] at N6
              dsimp only [ForTurn]
              k_steps
              unfold Stop
              exact by
                (with_reducible rename News _ _ _ _ => NA)
                k_call_by "mine" (num_spec w p loose mean mg mb (apL F) _ (apL_ok F hF16) (apL_len F hF16))
                refine ValRet.all ?_
                intro t7 h7 tk7 F7 N7 G7 O7
                have N8 := News.keep0 NA G7
                clear N7 G7 O7 NA
                rw [numL_apL F hF16]
                have hszA : (strOf (apL F)).length ≤ sizeLine := by rw [strOf_length, PySem.sizeLine_eq]; have := apL_len F hF16; omega
                have hA : (Txt.slice (strOf (apL F)) none (some 1) == Str.ofString "A") = false := by rw [slice_head]; exact apL_head F hF16
                have hba : Builtin.bitAnd (F : Int) (M : Int) = (F : Int) := by rw [bitAnd_nat, hFM]
                k_steps
                · exact absurd hba (by assumption)
                unfold Stop
                exact by
                  (with_reducible rename News _ _ _ _ => NA)
                  k_call_by "mine" (pretty_spec w p loose mean mg mb F _ hF16)
                  refine ValRet.all ?_
                  intro t7 h7 tk7 F7 N7 G7 O7
                  have N8 := News.keep0 NA G7
                  clear N7 G7 O7 NA
                  k_steps
                  unfold Stop
                  exact by
                    refine KSpl.split1 (by k_asm) (by k_asm) (by decide) ?_ (pretty_size F hF16)
                    intro TD tv7 h8 k8 e8 a8 F8 N9 l8
                    rw [split_pretty F hF16] at e8
                    rw [e8] at a8
                    clear N8
                    k_lt l8
                    k_steps
                    unfold Stop
                    exact by
                      refine LCt.ListComp_T (F₀ := by k_asm) (by with_unfolding_all rfl) (by decide) (by rfl) (by decide) (by rfl) ?_
                      k_steps
                      unfold Stop
                      exact by
                        (with_reducible rename News _ _ _ _ => NB)
                        refine LCt.CompSrcT.ledger (by rfl) (by k_asm) NB (ax := plc) (its := pv.toArray) (k := nq) (by k_mem) (by rw [List.size_toArray, ints_len hpv, List.length_map, PySem.sizeLine_eq]; omega) ?_
                        intro g8
                        refine comp_restT (SameJ _ fun i => ((ps.take i).filter F.testBit).map nameS) (.mk .nil) ?_ ?_
                        · intro i2 v I oI C oC D2 m₂ hh2 tk2 E' hi2
                          intro ys2
                          refine SameJ.all ?_
                          rintro hy2 hv2 hoC hx2 F9 N9 off9 ne9
                          obtain ⟨qk, tq, hqk, rfl⟩ := ints_at hpv (by simpa using hv2)
                          obtain ⟨q, hq, rfl⟩ : ∃ q : Nat, ps[i2]? = some q ∧ qk = (q : Int) := by
                            simp only [List.getElem?_map] at hqk
                            cases hc : ps[i2]? with
                            | none => rw [hc] at hqk; cases hqk
                            | some M => rw [hc] at hqk; exact ⟨M, rfl, (Option.some.inj hqk).symm⟩
                          have hq16 := hp16 q (List.mem_of_getElem? hq)
                          have hq0 : (0 : Int) ≤ (q : Int) := Int.natCast_nonneg _
                          have hq1 : (q : Int) < 16 := by omega
                          k_steps
                          · unfold Stop
                            exact by
                              (with_reducible rename News _ _ _ _ => NC)
                              k_call_by "mine" (name_spec w p loose mean mg mb q _ hq16)
                              refine ValRet.all ?_
                              intro t7 h7 tk7 F7 N7 G7 O7
                              have N8 := News.keep0 NC G7
                              refine comp_end F7 N8 off9 (.inr ⟨W.listOf pv.toArray nq, by k_mem, rfl, nq, rfl⟩) (.mk ?_)
                              rw [List.take_add_one, hq, Option.toList_some, List.filter_append, List.map_append]
                              have hb : F.testBit q = true := (bit_test F q).mp (by assumption)
                              simp only [List.filter_cons, hb, if_true, List.filter_nil, List.map_cons, List.map_nil]
                              exact hy2.append' (.cons _ _ .nil)
                          · refine comp_end (by assumption) (by assumption) off9 (.inr ⟨W.listOf pv.toArray nq, by k_mem, rfl, nq, rfl⟩) (.mk ?_)
                            rw [List.take_add_one, hq, Option.toList_some, List.filter_append, List.map_append]
                            have hb : F.testBit q = false := by
                              cases hc : F.testBit q with
                              | false => rfl
                              | true => exact absurd ((bit_test F q).mpr hc) (by assumption)
                            simp only [List.filter_cons, hb, Bool.false_eq_true, if_false, List.filter_nil, List.map_nil, List.append_nil]
                            exact hy2
                        · intro ys2
                          refine SameJ.all ?_
                          intro hy2
                          intro D2 hh9 tk9 F9 N9 off9
                          have hpsz : pv.toArray.size = ps.length := by rw [List.size_toArray, ints_len hpv, List.length_map]
                          rw [hpsz, List.take_length] at hy2
                          have hfit : ((ys2.toArray.size : Nat) : Int) < 2 ^ 63 := by
                            have h1 := strs_len hy2
                            have h2 := List.length_filter_le F.testBit ps
                            rw [List.length_map] at h1
                            rw [List.size_toArray]; omega
                          have htold := told_places F ps hps hp16 (hfp F (List.mem_of_getElem? hF))
                          have hzv : vs.toArray.size ≤ sizeLine := by
                            have h1 := strs_len hvs
                            rw [List.length_map, List.length_take] at h1
                            rw [List.size_toArray, PySem.sizeLine_eq]; omega
                          have oD : offLex a D := off1_lex (front := [(L' + 1 + 1, _), (L' + 1, oX)]) off
                          have hfront : ∀ oC : Obj, ∀ q ∈ zipN z TI TO i1 i2 (.str (strOf (apL F)) xt) (.int (M : Int) mt) z1' z2' ++ [(D, LCg.lst ys), (L' + 1 + 1, oC), (L' + 1, oX)], offLex a q.1 := by
                            intro oC
                            have ab : ∀ b : Addr, @LT.lt Nat _ a.pb b → offLex a b := fun b hb => offLex.above ho hb
                            simp only [zipN, List.cons_append, List.nil_append, List.forall_mem_cons]
                            refine ⟨ab _ (by omega), ab _ (by omega), ab _ (by omega), ab _ (by omega), ab _ (by omega), oD, ab _ (by omega), ab _ (by omega), fun _ h => nomatch h⟩
                          have hback : ∀ q ∈ [(mem, W.listOf mv.toArray nm), (plc, W.listOf pv.toArray nq)], offLex a q.1 := List.forall_mem_cons.mpr ⟨om, List.forall_mem_cons.mpr ⟨op, fun _ h => nomatch h⟩⟩
                          have hjl : j < words.length := by rw [hwn, List.length_map]; exact (List.getElem?_eq_some_iff.mp hF).1
                          have hF16 := hn16 F (List.mem_of_getElem? hF)
                          have hpp0 : (0 : Int) ≤ (pp : Int) := Int.natCast_nonneg _
                          have hpp1 : (pp : Int) < 16 := Int.ofNat_lt.mpr (hp16 pp hpp)
                          (with_reducible rename News _ _ _ _ => NB0)
                          rename_i oC _ _ _ _ _ _ _ _ _ _
                          have hfrontC := hfront oC
                          clear hfront
                          -- the word is put back, the turn ends
                          refine' share (fun (Mo : Model) (Ar : Around) (Qu Eu : Value → Shared → Prop) => ∀ (F' : Nat) (xt' : Tok) (hh : Heap) (tkk : Nat) (u' : Str → Option Value), res[j]? = some F' → Fr g L' hh (fun z => if z = Str.ofString "line" then some (.ref D) else if z = Str.ofString "places" then some (.ref plc) else if z = Str.ofString "p" then some (.int (pp : Int) tp0) else u' z) →
                            News g L' hh (zipN z TI TO i1 i2 (.str (strOf (apL F)) xt) (.int (M : Int) mt) z1' z2' ++ [(D, LCg.lst ys), (L' + 1 + 1, oC), (L' + 1, oX)] ++ (lexN w a (line words.length) tl vs.toArray n (pos words.length) tp np ++ [(mem, W.listOf mv.toArray nm), (plc, W.listOf pv.toArray nq)])) → wpAny Mo Ar (call (.ref 64) [.ref a.lx, .str (strOf (apL F')) xt']) Qu Eu { s with heap := hh, toks := tkk }) ?kp ?km
                          case km =>
                            intro key
                            -- told and what it is compared with
                            refine' share (fun (Mo : Model) (Ar : Around) (Qu Eu : Value → Shared → Prop) => ∀ (X : Addr) (xv : List Value) (cx : Nat) (Nm : List Str) (hh : Heap) (tkk : Nat) (u' : Str → Option Value), StrsAre (strValues tv7) Nm → StrsAre xv Nm → (∀ x ∈ Nm, PyData.canLay0 (.str x) = true) → Nm.any (· == nameS pp) = F.testBit pp →
                              Fr g L' hh (fun z => if z = Str.ofString "told" then some (.ref TD) else if z = Str.ofString "word" then some (.str (strOf (apL F)) xt) else if z = Str.ofString "line" then some (.ref D) else if z = Str.ofString "places" then some (.ref plc) else if z = Str.ofString "p" then some (.int (pp : Int) tp0) else u' z) →
                              News g L' hh ((X, W.listOf xv.toArray cx) :: (TD, W.listOf (strValues tv7).toArray 0) :: (zipN z TI TO i1 i2 (.str (strOf (apL F)) xt) (.int (M : Int) mt) z1' z2' ++ [(D, LCg.lst ys), (L' + 1 + 1, oC), (L' + 1, oX)] ++ (lexN w a (line words.length) tl vs.toArray n (pos words.length) tp np ++ [(mem, W.listOf mv.toArray nm), (plc, W.listOf pv.toArray nq)]))) → wpAny Mo Ar (compareOp CmpOp.NotEq (.ref TD) (.ref X)) Qu Eu { s with heap := hh, toks := tkk }) ?kp2 ?km2
                            case km2 =>
                              intro key2
                              cases ys2 with
                              | nil =>
                                have hnil : ((ps.filter F.testBit).map nameS) = [] := List.length_eq_zero_iff.mp (strs_len hy2).symm
                                rw [hnil] at htold
                                simp only [if_true] at htold
                                rw [htold] at a8 e8
                                have hF0 : F = 0 := toldL_zero F hF16 htold
                                k_steps
                                unfold Stop
                                exact by
                                  (with_reducible rename News _ _ _ _ => NC)
                                  (with_reducible rename Fr _ _ _ _ => F9)
                                  exact key2 _ _ _ [Str.ofString "0x0"] _ _ _ a8 (.cons _ _ .nil) lay0x (by rw [name_not0x pp (hp16 pp hpp), hF0, Nat.zero_testBit]) (fr_map5 F9 (Str.ofString "told") (Str.ofString "word") (Str.ofString "line") (Str.ofString "places") (Str.ofString "p") rfl rfl rfl rfl rfl) (News.subs NC (by
                                    simp only [zipN, lexN, List.cons_append, List.nil_append]
                                    (repeat (refine List.forall_mem_cons.mpr (And.intro (by k_mem) ?_)))
                                    exact fun _ h => nomatch h))
                              | cons y0 yr =>
                                have hne : ((ps.filter F.testBit).map nameS) ≠ [] := fun e => by
                                  have := strs_len hy2
                                  rw [e] at this; simp at this
                                rw [if_neg hne] at htold
                                rw [htold] at a8 e8
                                have hfilt : ∀ q ∈ ps.filter F.testBit, q < 16 := fun q hq => hp16 q (List.mem_filter.mp hq).1
                                k_steps
                                unfold Stop
                                exact by
                                  (with_reducible rename News _ _ _ _ => NC)
                                  (with_reducible rename Fr _ _ _ _ => F9)
                                  exact key2 _ _ _ _ _ _ _ a8 hy2 (lay_names _ hfilt) (told_any F ps hp16 pp hpp) (fr_map5 F9 (Str.ofString "told") (Str.ofString "word") (Str.ofString "line") (Str.ofString "places") (Str.ofString "p") rfl rfl rfl rfl rfl) (News.subs NC (by
                                    simp only [zipN, lexN, List.cons_append, List.nil_append]
                                    (repeat (refine List.forall_mem_cons.mpr (And.intro (by k_mem) ?_)))
                                    exact fun _ h => nomatch h))
                            case kp2 =>
                              intro X xv cx Nm hh tkk u' hNt hNx hlay hbit FA NA
                              simp only [zipN, lexN, List.cons_append, List.nil_append] at NA
                              refine ne_strs (News.isList NA (by k_mem)) (News.isList NA (by k_mem)) hNt hNx hlay hlay (by ktr_units) ?_
                              simp only [decide_true, Bool.not_true]
                              k_steps
                              unfold Stop
                              exact by
                                (with_reducible rename News _ _ _ _ => NC)
                                k_call_by "mine" (name_spec w p loose mean mg mb pp _ (hp16 pp hpp))
                                refine ValRet.all ?_
                                intro t7 h7 tk7 F7 N7 G7 O7
                                have N8 := News.keep0 NC G7
                                clear N7 G7 O7 NC
                                k_steps
                                unfold Stop
                                exact by
                                  (with_reducible rename News _ _ _ _ => NB)
                                  refine in_list_strs (News.isList NB (by k_mem)) hNt ?_
                                  rw [hbit]
                                  cases hb : F.testBit pp with
                                  | false =>
                                    k_steps
                                    unfold Stop
                                    exact by
                                      (with_reducible rename News _ _ _ _ => NC)
                                      (with_reducible rename Fr _ _ _ _ => F9)
                                      have NF : News g L' _ (zipN z TI TO i1 i2 (.str (strOf (apL F)) xt) (.int (M : Int) mt) z1' z2' ++ [(D, LCg.lst ys), (L' + 1 + 1, oC), (L' + 1, oX)] ++ (lexN w a (line words.length) tl vs.toArray n (pos words.length) tp np ++ [(mem, W.listOf mv.toArray nm), (plc, W.listOf pv.toArray nq)])) := News.subs NC (by
                                        simp only [zipN, lexN, List.cons_append, List.nil_append]
                                        (repeat (refine List.forall_mem_cons.mpr (And.intro (by k_mem) ?_)))
                                        exact fun _ h => nomatch h)
                                      have hres : res[j]? = some (F) := by rw [hshift j F hF, if_neg (by rw [hb]; simp)]
                                      exact key _ _ _ _ _ hres (fr_map3 F9 (Str.ofString "line") (Str.ofString "places") (Str.ofString "p") rfl rfl rfl) NF
                                  | true =>
                                    have hsub := sub_bit F pp hb
                                    have hG16 : F - 2 ^ pp < 65536 := Nat.lt_of_le_of_lt (Nat.sub_le _ _) hF16
                                    have hwa : ((words.map strOf).any (· == strOf (apL (F - 2 ^ pp)))) = decide (F - 2 ^ pp ∈ nums) := by rw [hwn]; exact words_any nums hn16 (F - 2 ^ pp) hG16
                                    k_steps
                                    unfold Stop
                                    exact by
                                      rw [hsub]
                                      (with_reducible rename News _ _ _ _ => NC)
                                      k_call_by "mine" (ap_spec w p loose mean mg mb (F - 2 ^ pp) _ hG16)
                                      refine ValRet.all ?_
                                      intro t7 h7 tk7 F7 N7 G7 O7
                                      have N8 := News.keep0 NC G7
                                      clear N7 G7 O7 NC
                                      k_steps
                                      unfold Stop
                                      exact by
                                        refine decode_ap (apL_ok _ hG16) (apL_len _ hG16) ?_
                                        intro tD kD
                                        k_steps
                                        unfold Stop
                                        exact by
                                          (with_reducible rename News _ _ _ _ => NB)
                                          refine notin_list_strs (News.isList NB (by k_mem)) hy0 ?_
                                          rw [hwa]
                                          by_cases hin : F - 2 ^ pp ∈ nums
                                          · rw [decide_eq_true hin, Bool.not_true]
                                            k_steps
                                            unfold Stop
                                            exact by
                                              (with_reducible rename News _ _ _ _ => NC)
                                              (with_reducible rename Fr _ _ _ _ => F9)
                                              have NF : News g L' _ (zipN z TI TO i1 i2 (.str (strOf (apL F)) xt) (.int (M : Int) mt) z1' z2' ++ [(D, LCg.lst ys), (L' + 1 + 1, oC), (L' + 1, oX)] ++ (lexN w a (line words.length) tl vs.toArray n (pos words.length) tp np ++ [(mem, W.listOf mv.toArray nm), (plc, W.listOf pv.toArray nq)])) := News.subs NC (by
                                                simp only [zipN, lexN, List.cons_append, List.nil_append]
                                                (repeat (refine List.forall_mem_cons.mpr (And.intro (by k_mem) ?_)))
                                                exact fun _ h => nomatch h)
                                              have hres : res[j]? = some (F) := by rw [hshift j F hF, if_neg (by rw [hb]; simp [hin])]
                                              exact key _ _ _ _ _ hres (fr_map3 F9 (Str.ofString "line") (Str.ofString "places") (Str.ofString "p") rfl rfl rfl) NF
                                          · rw [decide_eq_false hin, Bool.not_false]
                                            k_steps
                                            unfold Stop
                                            exact by
                                              (with_reducible rename News _ _ _ _ => NC)
                                              (with_reducible rename Fr _ _ _ _ => F9)
                                              have NF : News g L' _ (zipN z TI TO i1 i2 (.str (strOf (apL F)) xt) (.int (M : Int) mt) z1' z2' ++ [(D, LCg.lst ys), (L' + 1 + 1, oC), (L' + 1, oX)] ++ (lexN w a (line words.length) tl vs.toArray n (pos words.length) tp np ++ [(mem, W.listOf mv.toArray nm), (plc, W.listOf pv.toArray nq)])) := News.subs NC (by
                                                simp only [zipN, lexN, List.cons_append, List.nil_append]
                                                (repeat (refine List.forall_mem_cons.mpr (And.intro (by k_mem) ?_)))
                                                exact fun _ h => nomatch h)
                                              have hres : res[j]? = some (F - 2 ^ pp) := by rw [hshift j F hF, if_pos ⟨hb, hin⟩]
                                              exact key _ _ _ _ _ hres (fr_map3 F9 (Str.ofString "line") (Str.ofString "places") (Str.ofString "p") rfl rfl rfl) NF
                          case kp =>
                            intro F' xt' hh tkk u' hres FA NA
                            have NC := NA
                            dsimp only [zipN, lexN, List.cons_append, List.nil_append] at NC
                            have hpush := push_spec w a ho p loose mean mg mb (line words.length) tl vs n (pos words.length) tp np (strOf (apL F')) xt' hzv
                            dsimp only [lexN] at hpush
                            k_call_by "mine" hpush
                            refine PutRet.all ?_
                            intro n' h7 tk7 F7 N7 G7 O7
                            have N8 := lex_put NA G7 N7 hfrontC hback
                            clear N7 NC NA O7 G7
                            k_steps
                            (with_reducible rename Fr _ _ _ _ => F9)
                            (with_reducible rename News _ _ _ _ => N9)
                            exact ⟨words.length - (j + 1), by omega, j + 1, z1', z2', oC, _, _, _, _, _, _, _, _, _, _, _, by omega, hz1', hz2', (by assumption), fr_map3 F9 (Str.ofString "line") (Str.ofString "places") (Str.ofString "p") rfl rfl rfl, N9, by rw [List.take_add_one, hres, Option.toList_some, List.map_append]; exact hvs.append' (.cons _ _ .nil)⟩
            · intro h6 hx F6 N6
              have hjl : words.length ≤ j := by
                rcases hx with hx | hx
                · rw [List.getElem?_toArray, List.getElem?_eq_none_iff, strs_len hy0, List.length_map] at hx; exact hx
                · rw [List.getElem?_toArray, List.getElem?_eq_none_iff, hmv, ← hwl] at hx; exact hx
              have htk : res.take j = res := List.take_of_length_le (by rw [hrl]; have : words.length = nums.length := by rw [hwn, List.length_map]
                                                                        omega)
              rw [htk] at hvs
              k_steps
              refine Done.intro F6 N6 _ (fun q hq => ?_) (.mk vs tl n tp np hvs)
              exact List.mem_cons_of_mem _ (List.mem_cons_of_mem _ (List.mem_cons_of_mem _ hq))
end
end
section
section
set_option inductive.autoPromoteIndices false in
set_option autoImplicit false in
inductive QuoI (g : Heap) (L1 : Addr) (s : Shared) (w : World) (a : LexA) (it iq : Addr) (line : Int) (n pos np : Nat) (q : List Nat)  : Nat → Shared → Prop
  | mk (i : Nat) (h : Heap) (tk : Nat) (u : Str → Option Value) (tn : Tok) (tl5 : Tok) (tp5 : Tok) (ts : Tok) (c0 : i ≤ q.length) (c1 : Fr g L1 h (fun z => if z = Str.ofString "token" then some (.str (strOf (q.take i)) tn) else u z)) (c2 : News g L1 h (tokN w a it iq ts line tl5 n ((pos + 1 + i : Nat) : Int) tp5 np)) : QuoI g L1 s w a it iq line n pos np q (q.length + 1 - i) ({ s with heap := h, toks := tk })
set_option autoImplicit false in
theorem QuoI.all {g : Heap} {L1 : Addr} {s : Shared} {w : World} {a : LexA} {it : Addr} {iq : Addr} {line : Int} {n : Nat} {pos : Nat} {np : Nat} {q : List Nat} {P : Nat → Shared → Prop} (h : ∀ (i : Nat) (h : Heap) (tk : Nat) (u : Str → Option Value) (tn : Tok) (tl5 : Tok) (tp5 : Tok) (ts : Tok) (c0 : i ≤ q.length) (c1 : Fr g L1 h (fun z => if z = Str.ofString "token" then some (.str (strOf (q.take i)) tn) else u z)) (c2 : News g L1 h (tokN w a it iq ts line tl5 n ((pos + 1 + i : Nat) : Int) tp5 np)), P (q.length + 1 - i) ({ s with heap := h, toks := tk })) : ∀ (x0 : Nat) (x1 : Shared), QuoI g L1 s w a it iq line n pos np q x0 x1 → P x0 x1 :=
  fun _ _ t => QuoI.rec (motive := fun x0 x1 _ => P x0 x1) h t
theorem words_token_quoted : True := by
  w_top off
  k_with_none
  k_with "mine ktr_room" => ((try simp only [depth_under_make, depth_under_kw, depth_in1, depth_deeper, depth_caller]); (try dsimp only [ktrTop]); first | decide | omega)
  k_with "mine ktr_units" => ((try simp only [units_in1, units_deeper, Around.mark_units, units_caller]); (try dsimp only [ktrTop]); first | (rw [cLine_is]; decide) | omega)
  k_with "mine call by" => ((case k1 => k_asm); (case k2 => kn_code); (case k3 => k_asm); (case k4 => k_asm); (case k5 => (refine' News.subs ?k51 ?k52; (case k51 => k_asm); (case k52 => ((repeat (refine List.forall_mem_cons.mpr (And.intro (by k_mem) ?_))); exact fun _ h => nomatch h)))); (case k6 => k_asm); (case k7 => first | exact rfl | assumption); (case k8 => ktr_room); (case k9 => ktr_units); (case kp => first | exact trivial | assumption))
  k_with "binaryOp Add str str" => (refine PyProof.Rows.add_str (hsz := ?hszq) ?_; (case hszq => assumption); intro _ _)
  k_with "call builtin:hex" => (refine P.hex_of_int ?_ (hsz := ?hszq); (case hszq => assumption))
  k_with "call builtin:list.append" => (k_here; (with_reducible show wpAny _ _ (call (Value.builtin _) [Value.ref _, _]) _ _ _); k_dflt (refine' append_K ?k1 ?k2 ?k3 ?_ ?z; (case k1 => k_asm); (case k2 => k_asm); (case k3 => k_upd); (case z => assumption); k_whole); intro h9w F9w N9w; (try k_sweep))
  k_with "call builtin:dict.get" => (k_here; k_dflt (refine' flag_get ?k1 ?k2 ?k3 ?k4 ?_; (case k1 => k_asm); (case k2 => exact Fr.keep (by with_reducible assumption)); (case k3 => assumption); (case k4 => assumption)); intro t9w tk9w)
  k_with "exec For Name Call cons nil" => (refine for_raw ?_)
  k_with "exec For Name Call cons cons" => (refine for_raw ?_)
  k_with "exec For Name Name cons nil" => (refine for_raw ?_)
  k_with "exec For Name Subscript cons nil" => (refine for_raw ?_)
  k_with "exec While Name cons nil" => (refine Stop.out ?_)
  k_with "subscriptTail" => (k_here; (with_reducible show wpAny _ _ (subscriptTail _ (Expr.Slice _ _ none _) (Value.bytes _ _) (Value.ref _)) _ _ _); (with_reducible rename Fr _ _ _ _ => F9w); (with_reducible rename News _ _ _ _ => N9w); (refine KBy.slice_N (s := ⟨_, _, _, _, _⟩) F9w N9w (by constructor) (by constructor) (by assumption) (by assumption) ?_); intro _ _ _ _ _)
  k_with "binaryOp Add bytes bytes" => (k_here; (with_reducible show wpAny _ _ (binaryOp Operator.Add (Value.bytes _ _) (Value.bytes _ _)) _ _ _); (refine KBy.add_bytes (by assumption) ?_); intro _ _)
  k_with "mine enter" => (k_dflt (refine' enter_plain ?k1 ?k2 ?k3 ?k4 ?k5 ?kA ?kF ?kK ?k6 ?k7 ?k8 ?k9 ?kB ?hr ?_ ?c2 ?c3 ?c4 ?c5; (case kA => exact rfl); (case kF => exact rfl); (case kK => assumption); (case k1 => k_asm); (case k2 => k_asm); (case k3 => k_asm); (case k4 => k_asm); (case k5 => k_asm); (case k6 => k_is); (case k7 => k_is); (case k8 => ktr_room); (case k9 => exact BindsTo.of_eq rfl); (case c5 => decide); (case kB => exact locs rfl); (case hr => assumption); (case c2 => exact rfl); (case c3 => exact rfl); (case c4 => exact rfl); k_whole))
  k_with "mine cells" => (k_dflt (refine' enter_cells ?k1 ?k2 ?k3 ?k4 ?k5 ?kA ?kF ?kK ?k6 ?k7 ?k8 ?k9 ?kB ?kD ?hr ?_ ?c2 ?c3 ?c4; (case kA => exact rfl); (case kF => exact rfl); (case kK => assumption); (case k1 => k_asm); (case k2 => k_asm); (case k3 => k_asm); (case k4 => k_asm); (case k5 => k_asm); (case k6 => k_is); (case k7 => k_is); (case k8 => ktr_room); (case k9 => exact BindsTo.of_eq rfl); (case kB => exact rfl); (case kD => decide +kernel); (case hr => assumption); (case c2 => exact rfl); (case c3 => exact rfl); (case c4 => exact rfl); k_whole))
  k_with "mine made" => (k_dflt (refine' enter_made ?k1 ?k2 ?k3 ?k4 ?k5 ?kA ?kF ?kK ?k6 ?kd ?k7 ?k8 ?k9 ?kB ?hr ?_ ?c2 ?c3 ?c4 ?c5; (case kA => exact rfl); (case kF => exact rfl); (case kK => assumption); (case k1 => k_asm); (case k2 => k_asm); (case k3 => k_asm); (case k4 => k_asm); (case k5 => k_asm); (case k6 => k_mem); (case kd => exact rfl); (case k7 => exact codeRec_news (by k_asm) (by k_mem) (by assumption) (by assumption)); (case k8 => ktr_room); (case k9 => exact BindsTo.of_eq rfl); (case c5 => decide); (case kB => exact locs rfl); (case hr => assumption); (case c2 => exact rfl); (case c3 => exact rfl); (case c4 => exact rfl); k_whole))
  k_with "subscriptTail" => (k_here; (with_reducible show wpAny _ _ (subscriptTail _ (Expr.Slice _ _ none _) (Value.str _ _) (Value.ref _)) _ _ _); (with_reducible rename Fr _ _ _ _ => F9w); (with_reducible rename News _ _ _ _ => N9w); (first
  | ((with_reducible show wpAny _ _ (subscriptTail _ (Expr.Slice (some _) (some _) none _) _ _) _ _ _); (refine slice_strN_ss (hsz := ?hsz) (s := ⟨_, _, _, _, _⟩) F9w N9w ?_); (case hsz => assumption))
  | ((with_reducible show wpAny _ _ (subscriptTail _ (Expr.Slice none (some _) none _) _ _) _ _ _); (refine slice_strN_ns (hsz := ?hsz) (s := ⟨_, _, _, _, _⟩) F9w N9w ?_); (case hsz => assumption))); intro _ _ _ _ _)
  k_with "call builtin:len" => (k_here; (with_reducible show wpAny _ _ (call (Value.builtin "len") [Value.str _ _]) _ _ _); refine PyProof.Rows.len_str ?hfit ?_; (case hfit => first | exact len_fitS (by assumption) | exact len_fits (by assumption)))
  k_with "exec For Name Name cons cons" => (refine for_raw ?_)
  k_with "call builtin:iter" => (k_here; (with_reducible show wpAny _ _ (call (Value.builtin _) [Value.ref _, Value.str _ _]) _ _ _); k_dflt (refine' call_iter2 ?k1 ?k2 ?k3 ?_; (case k1 => k_asm); (case k2 => k_asm); (case k3 => k_mem); k_whole); intro it9w h9w F9w N9w l9w G9w; (try k_lt l9w))
  k_with "inplaceOp Add str str" => (refine PyProof.Rows.iadd_str (hsz := ?hszi) ?_; (case hszi => assumption); intro _ _)
  k_with "exec For Name Name cons nil" => (refine Stop.out ?_)
  k_with "exec For Name Name cons cons" => (refine Stop.out ?_)
  k_with "call ref" => (refine Stop.out ?_)
  k_with "lt0" => (first | with_reducible assumption | exact And.left (by with_reducible assumption) | exact And.left (And.right (by with_reducible assumption)) | exact And.left (And.right (And.right (by with_reducible assumption))) | exact And.left (And.right (And.right (And.right (by with_reducible assumption)))) | exact And.left (And.right (And.right (And.right (And.right (by with_reducible assumption))))) | exact And.left (And.right (And.right (And.right (And.right (And.right (by with_reducible assumption)))))) | exact And.left (And.right (And.right (And.right (And.right (And.right (And.right (by with_reducible assumption))))))) | exact And.left (And.right (And.right (And.right (And.right (And.right (And.right (And.right (by with_reducible assumption)))))))) | exact And.left (And.right (And.right (And.right (And.right (And.right (And.right (And.right (And.right (by with_reducible assumption))))))))) | exact And.left (And.right (And.right (And.right (And.right (And.right (And.right (And.right (And.right (And.right (by with_reducible assumption)))))))))) | exact And.left (And.right (And.right (And.right (And.right (And.right (And.right (And.right (And.right (And.right (And.right (by with_reducible assumption))))))))))) | exact And.left (And.right (And.right (And.right (And.right (And.right (And.right (And.right (And.right (And.right (And.right (And.right (by with_reducible assumption)))))))))))) | exact And.right (by with_reducible assumption) | exact And.right (And.right (by with_reducible assumption)) | exact And.right (And.right (And.right (by with_reducible assumption))) | exact And.right (And.right (And.right (And.right (by with_reducible assumption)))) | exact And.right (And.right (And.right (And.right (And.right (by with_reducible assumption))))) | exact And.right (And.right (And.right (And.right (And.right (And.right (by with_reducible assumption)))))) | exact And.right (And.right (And.right (And.right (And.right (And.right (And.right (by with_reducible assumption))))))) | exact And.right (And.right (And.right (And.right (And.right (And.right (And.right (And.right (by with_reducible assumption)))))))) | exact And.right (And.right (And.right (And.right (And.right (And.right (And.right (And.right (And.right (by with_reducible assumption))))))))) | exact And.right (And.right (And.right (And.right (And.right (And.right (And.right (And.right (And.right (And.right (by with_reducible assumption)))))))))) | exact And.right (And.right (And.right (And.right (And.right (And.right (And.right (And.right (And.right (And.right (And.right (by with_reducible assumption))))))))))) | exact nat_lt1 _)
  k_with "ch" => (first | with_reducible assumption | (refine Nat.lt_trans (by with_reducible assumption) ?_; k_extra "ch"))
  k_with "lt" => (first | k_extra "lt0" | exact nat_ltS (by k_extra "lt0") | exact nat_ltS (nat_ltS (by k_extra "lt0")) | exact nat_ltS (nat_ltS (nat_ltS (by k_extra "lt0"))) | exact nat_ltS (nat_ltS (nat_ltS (nat_ltS (by k_extra "lt0")))) | exact nat_ltS (nat_ltS (nat_ltS (nat_ltS (nat_ltS (by k_extra "lt0"))))) | exact nat_ltS (nat_ltS (nat_ltS (nat_ltS (nat_ltS (nat_ltS (by k_extra "lt0")))))) | exact nat_ltS (nat_ltS (nat_ltS (nat_ltS (nat_ltS (nat_ltS (nat_ltS (by k_extra "lt0"))))))) | exact nat_ltS (nat_ltS (nat_ltS (nat_ltS (nat_ltS (nat_ltS (nat_ltS (nat_ltS (by k_extra "lt0")))))))) | k_extra "ch")
  k_with "omega" => (first
    | with_reducible assumption
    | exact Nat.ne_of_lt (by with_reducible assumption) | exact Nat.ne_of_gt (by with_reducible assumption)
    | exact nat_room2 (by with_reducible assumption) (by rfl) | exact nat_room1 (by with_reducible assumption) (by rfl) | exact nat_room3 (by with_reducible assumption) (by rfl) | exact nat_room0 (by with_reducible assumption)
    | exact nat_meas (by with_reducible assumption) | exact nat_meas (Nat.lt_succ_of_lt (by with_reducible assumption))
    | exact c_low (by with_reducible assumption) (by rfl) | exact c_high (by with_reducible assumption) (by rfl) | exact c_lt (by with_reducible assumption) (by rfl)
    | exact Nat.succ_le_of_lt (by with_reducible assumption) | exact Nat.lt_succ_of_le (by with_reducible assumption)
    | exact And.intro (by k_extra "lt") (by k_extra "lt")
    | exact Int.natCast_nonneg _ | exact Int.ofNat_lt.mpr (by with_reducible assumption) | exact Int.ofNat_le.mpr (by with_reducible assumption) | exact int_lt (by with_reducible assumption) (by decide) | exact int_le (by with_reducible assumption) (by decide) | exact Int.lt_of_lt_of_le (by with_reducible assumption) (by decide) | exact Int.le_trans (Int.le_of_lt (by with_reducible assumption)) (by decide)
    | exact Nat.ne_of_lt (by k_extra "lt") | exact Nat.ne_of_gt (by k_extra "lt") | k_extra "lt"
    | exact Nat.le_trans (by with_reducible assumption) (by decide) | exact nat_eqle (by with_reducible assumption) (by decide) | exact Nat.le_trans (Nat.succ_le_succ (by with_reducible assumption)) (by decide) | exact Nat.le_of_lt (by with_reducible assumption) | exact Nat.le_of_eq (by with_reducible assumption)
    | decide)
  exact True.intro
set_option maxRecDepth 100000 in
set_option maxHeartbeats 8000000 in
theorem token_quoted (w : World) (l : List Nat) (a : LexA) (ho : a.Ordered) (hr : ReadCl w l a) (p : Program) (loose : List Str) (mean : ExcName → Option Value) (mg mb : Str → Option Value) (line : Int) (tl : Tok) (n : Nat) (pos : Nat) (tp : Tok) (np : Nat) (hpos : pos ≤ l.length) (hlen : l.length ≤ 400)
   (q r : List Nat) (hq : ∀ c ∈ q, 65 ≤ c ∧ c < 81) (hql : q.length ≤ 4) (hl : l.drop pos = 34 :: (q ++ 34 :: r)) :
   Claim w p loose mean mg mb 57 5 (lexN w a line tl #[] n pos tp np) [.ref a.lx] (fun _ => True) (TokRet w a line #[] n ((pos + q.length + 2 : Nat) : Int) np fun t' => .str (strOf q) t') := by
  have ho' := ho
  obtain ⟨p0, p1, p2, p3, p4, p5, p6, p7, p8⟩ := ho'
  have hlen2 := congrArg List.length hl
  simp only [List.length_drop, List.length_cons, List.length_append] at hlen2
  have at0 : l[pos]? = some 34 := by
    have := congrArg (·[0]?) hl
    simpa using this
  have at1 : ∀ i, l[pos + 1 + i]? = (q ++ 34 :: r)[i]? := fun i => by
    have := congrArg (·[1 + i]?) hl
    simp only [List.getElem?_drop] at this
    rw [Nat.add_assoc, this, Nat.add_comm 1 i, List.getElem?_cons_succ]
  dsimp only [Claim, PR, lexN] at *
  k_fill
  intro dp un gd cn cs ca ccd cl outer A₀ base h₀ L m s Q E hB hC hF hX hN hT hk hd hu hp hret
  refine wpAny_call ?_
  walk_at "mine enter"
  intro g L1 h1 FG F1 N1 B1 X1 T1 G1
  refine id ?_
  (with_reducible show wpAny _ _ _ _ _ _)
  k_fold
  k_steps
  unfold Stop
  refine for_raw ?_
  k_steps
  (with_reducible rename News _ _ _ _ => N0)
  rename_i iq _ _ _ _
  refine iter_call (by k_asm) (by k_mem) ?_
  refine ⟨One _, 1, .mk, ?_⟩
  refine One.all ?_
  (with_reducible rename News _ _ _ _ => N2)
  (with_reducible rename Fr _ _ _ _ => F2)
  refine char_next ho hr hpos hlen ?_ B1 hC F2 X1 T1 rfl ?_ ?_ N2 ?_ ?_
  · omega
  · ktr_room
  · ktr_units
  · intro c t1 h3 tk3 tl3 tp3 hc F3 N3
    rw [at0] at hc
    obtain rfl : 34 = c := Option.some.inj hc
    have hw := not_ws (c := 34) (by decide) (by decide)
    rw [if_neg (by decide), Int.add_zero] at N3
    dsimp only [tokN, lexN] at N3
    dsimp only [ForTurn]
    k_steps
    · unfold Stop
      refine for_raw ?_
      k_steps
      refine iter_call (by k_asm) (by k_mem) ?_
      (with_reducible rename News _ _ _ _ => N4)
      (with_reducible rename Fr _ _ _ _ => F4)
      refine ⟨QuoI g L1 s w a it9w iq line n pos np q, q.length + 1, ?_, ?_⟩
      · exact ⟨0, _, _, _, _, _, _, _, Nat.zero_le _, fr_map1 F4 (Str.ofString "token") (by rw [List.take_zero, ← lit_empty]; rfl), N4⟩
      · refine QuoI.all ?_
        intro i h5 tk5 u tn tl5 tp5 ts hi F5 N5
        refine char_next ho hr (by omega) hlen ?_ B1 hC F5 X1 T1 rfl ?_ ?_ N5 ?_ ?_
        · omega
        · ktr_room
        · ktr_units
        · intro c t6 h6 tk6 tl6 tp6 hc F6 N6
          rw [at1] at hc
          dsimp only [ForTurn]
          by_cases hiq : i < q.length
          · rw [List.getElem?_append_left hiq] at hc
            have hcm := hq c (List.mem_of_getElem? hc)
            rw [if_neg (by omega), Int.add_zero] at N6
            dsimp only [tokN, lexN] at N6
            have hrm : (strOf (q.take i)).length + (strOf [c]).length ≤ sizeLine := room1 (by rw [List.length_take]; omega)
            have hqc : (strOf [c] == Str.ofString "\"") = false := by rw [quote_is]; exact decide_eq_false (by omega)
            have hbc : (strOf [c] == Str.ofString "\\") = false := by rw [back_is]; exact decide_eq_false (by omega)
            k_steps
            (with_reducible rename Fr _ _ _ _ => F9)
            (with_reducible rename News _ _ _ _ => N9)
            exact ⟨q.length + 1 - (i + 1), by omega, i + 1, _, _, _, _, _, _, _, by omega, fr_map1 F9 (Str.ofString "token") (by rw [List.take_add_one, hc, Option.toList_some, ← strOf_append]; rfl), N9⟩
          · have hi2 : i = q.length := by omega
            subst hi2
            rw [List.getElem?_append_right (Nat.le_refl _), Nat.sub_self] at hc
            obtain rfl : 34 = c := Option.some.inj hc
            rw [if_neg (by decide), Int.add_zero] at N6
            dsimp only [tokN, lexN] at N6
            k_steps
            (with_reducible rename Fr _ _ _ _ => F9)
            (with_reducible rename News _ _ _ _ => N9)
            dsimp only [ForFlow, OwitFlow]
            rw [show pos + 1 + q.length + 1 = pos + q.length + 2 by omega] at N9
            refine tok_done F9 N9 ?_
            rw [List.take_length]
            exact .mk _ _ _
        · intro h6 tk6 tl6 tp6 hc F6 N6
          rw [at1] at hc
          have := List.getElem?_eq_none_iff.mp hc
          simp only [List.length_append, List.length_cons] at this
          omega
    · exact (no_of hw (by assumption)).elim
  · intro h3 tk3 tl3 tp3 hc F3 N3
    rw [at0] at hc; cases hc
end
end
section
section
set_option inductive.autoPromoteIndices false in
set_option autoImplicit false in
inductive PlaI (g : Heap) (L1 : Addr) (s : Shared) (w : World) (a : LexA) (it iq : Addr) (line : Int) (n pos np : Nat) (q : List Nat)  : Nat → Shared → Prop
  | mk (i : Nat) (h : Heap) (tk : Nat) (u : Str → Option Value) (tn : Tok) (tl5 : Tok) (tp5 : Tok) (ts : Tok) (c0 : 1 ≤ i) (c1 : i ≤ q.length) (c2 : Fr g L1 h (fun z => if z = Str.ofString "token" then some (.str (strOf (q.take i)) tn) else if z = Str.ofString "self" then some (.ref a.lx) else u z)) (c3 : News g L1 h (tokN w a it iq ts line tl5 n ((pos + i : Nat) : Int) tp5 np)) : PlaI g L1 s w a it iq line n pos np q (q.length + 1 - i) ({ s with heap := h, toks := tk })
set_option autoImplicit false in
theorem PlaI.all {g : Heap} {L1 : Addr} {s : Shared} {w : World} {a : LexA} {it : Addr} {iq : Addr} {line : Int} {n : Nat} {pos : Nat} {np : Nat} {q : List Nat} {P : Nat → Shared → Prop} (h : ∀ (i : Nat) (h : Heap) (tk : Nat) (u : Str → Option Value) (tn : Tok) (tl5 : Tok) (tp5 : Tok) (ts : Tok) (c0 : 1 ≤ i) (c1 : i ≤ q.length) (c2 : Fr g L1 h (fun z => if z = Str.ofString "token" then some (.str (strOf (q.take i)) tn) else if z = Str.ofString "self" then some (.ref a.lx) else u z)) (c3 : News g L1 h (tokN w a it iq ts line tl5 n ((pos + i : Nat) : Int) tp5 np)), P (q.length + 1 - i) ({ s with heap := h, toks := tk })) : ∀ (x0 : Nat) (x1 : Shared), PlaI g L1 s w a it iq line n pos np q x0 x1 → P x0 x1 :=
  fun _ _ t => PlaI.rec (motive := fun x0 x1 _ => P x0 x1) h t
theorem words_token_plain : True := by
  w_top off
  k_with_none
  k_with "mine ktr_room" => ((try simp only [depth_under_make, depth_under_kw, depth_in1, depth_deeper, depth_caller]); (try dsimp only [ktrTop]); first | decide | omega)
  k_with "mine ktr_units" => ((try simp only [units_in1, units_deeper, Around.mark_units, units_caller]); (try dsimp only [ktrTop]); first | (rw [cLine_is]; decide) | omega)
  k_with "mine call by" => ((case k1 => k_asm); (case k2 => kn_code); (case k3 => k_asm); (case k4 => k_asm); (case k5 => (refine' News.subs ?k51 ?k52; (case k51 => k_asm); (case k52 => ((repeat (refine List.forall_mem_cons.mpr (And.intro (by k_mem) ?_))); exact fun _ h => nomatch h)))); (case k6 => k_asm); (case k7 => first | exact rfl | assumption); (case k8 => ktr_room); (case k9 => ktr_units); (case kp => first | exact trivial | assumption))
  k_with "binaryOp Add str str" => (refine PyProof.Rows.add_str (hsz := ?hszq) ?_; (case hszq => assumption); intro _ _)
  k_with "call builtin:hex" => (refine P.hex_of_int ?_ (hsz := ?hszq); (case hszq => assumption))
  k_with "call builtin:list.append" => (k_here; (with_reducible show wpAny _ _ (call (Value.builtin _) [Value.ref _, _]) _ _ _); k_dflt (refine' append_K ?k1 ?k2 ?k3 ?_ ?z; (case k1 => k_asm); (case k2 => k_asm); (case k3 => k_upd); (case z => assumption); k_whole); intro h9w F9w N9w; (try k_sweep))
  k_with "call builtin:dict.get" => (k_here; k_dflt (refine' flag_get ?k1 ?k2 ?k3 ?k4 ?_; (case k1 => k_asm); (case k2 => exact Fr.keep (by with_reducible assumption)); (case k3 => assumption); (case k4 => assumption)); intro t9w tk9w)
  k_with "exec For Name Call cons nil" => (refine for_raw ?_)
  k_with "exec For Name Call cons cons" => (refine for_raw ?_)
  k_with "exec For Name Name cons nil" => (refine for_raw ?_)
  k_with "exec For Name Subscript cons nil" => (refine for_raw ?_)
  k_with "exec While Name cons nil" => (refine Stop.out ?_)
  k_with "subscriptTail" => (k_here; (with_reducible show wpAny _ _ (subscriptTail _ (Expr.Slice _ _ none _) (Value.bytes _ _) (Value.ref _)) _ _ _); (with_reducible rename Fr _ _ _ _ => F9w); (with_reducible rename News _ _ _ _ => N9w); (refine KBy.slice_N (s := ⟨_, _, _, _, _⟩) F9w N9w (by constructor) (by constructor) (by assumption) (by assumption) ?_); intro _ _ _ _ _)
  k_with "binaryOp Add bytes bytes" => (k_here; (with_reducible show wpAny _ _ (binaryOp Operator.Add (Value.bytes _ _) (Value.bytes _ _)) _ _ _); (refine KBy.add_bytes (by assumption) ?_); intro _ _)
  k_with "mine enter" => (k_dflt (refine' enter_plain ?k1 ?k2 ?k3 ?k4 ?k5 ?kA ?kF ?kK ?k6 ?k7 ?k8 ?k9 ?kB ?hr ?_ ?c2 ?c3 ?c4 ?c5; (case kA => exact rfl); (case kF => exact rfl); (case kK => assumption); (case k1 => k_asm); (case k2 => k_asm); (case k3 => k_asm); (case k4 => k_asm); (case k5 => k_asm); (case k6 => k_is); (case k7 => k_is); (case k8 => ktr_room); (case k9 => exact BindsTo.of_eq rfl); (case c5 => decide); (case kB => exact locs rfl); (case hr => assumption); (case c2 => exact rfl); (case c3 => exact rfl); (case c4 => exact rfl); k_whole))
  k_with "mine cells" => (k_dflt (refine' enter_cells ?k1 ?k2 ?k3 ?k4 ?k5 ?kA ?kF ?kK ?k6 ?k7 ?k8 ?k9 ?kB ?kD ?hr ?_ ?c2 ?c3 ?c4; (case kA => exact rfl); (case kF => exact rfl); (case kK => assumption); (case k1 => k_asm); (case k2 => k_asm); (case k3 => k_asm); (case k4 => k_asm); (case k5 => k_asm); (case k6 => k_is); (case k7 => k_is); (case k8 => ktr_room); (case k9 => exact BindsTo.of_eq rfl); (case kB => exact rfl); (case kD => decide +kernel); (case hr => assumption); (case c2 => exact rfl); (case c3 => exact rfl); (case c4 => exact rfl); k_whole))
  k_with "mine made" => (k_dflt (refine' enter_made ?k1 ?k2 ?k3 ?k4 ?k5 ?kA ?kF ?kK ?k6 ?kd ?k7 ?k8 ?k9 ?kB ?hr ?_ ?c2 ?c3 ?c4 ?c5; (case kA => exact rfl); (case kF => exact rfl); (case kK => assumption); (case k1 => k_asm); (case k2 => k_asm); (case k3 => k_asm); (case k4 => k_asm); (case k5 => k_asm); (case k6 => k_mem); (case kd => exact rfl); (case k7 => exact codeRec_news (by k_asm) (by k_mem) (by assumption) (by assumption)); (case k8 => ktr_room); (case k9 => exact BindsTo.of_eq rfl); (case c5 => decide); (case kB => exact locs rfl); (case hr => assumption); (case c2 => exact rfl); (case c3 => exact rfl); (case c4 => exact rfl); k_whole))
  k_with "subscriptTail" => (k_here; (with_reducible show wpAny _ _ (subscriptTail _ (Expr.Slice _ _ none _) (Value.str _ _) (Value.ref _)) _ _ _); (with_reducible rename Fr _ _ _ _ => F9w); (with_reducible rename News _ _ _ _ => N9w); (first
  | ((with_reducible show wpAny _ _ (subscriptTail _ (Expr.Slice (some _) (some _) none _) _ _) _ _ _); (refine slice_strN_ss (hsz := ?hsz) (s := ⟨_, _, _, _, _⟩) F9w N9w ?_); (case hsz => assumption))
  | ((with_reducible show wpAny _ _ (subscriptTail _ (Expr.Slice none (some _) none _) _ _) _ _ _); (refine slice_strN_ns (hsz := ?hsz) (s := ⟨_, _, _, _, _⟩) F9w N9w ?_); (case hsz => assumption))); intro _ _ _ _ _)
  k_with "call builtin:len" => (k_here; (with_reducible show wpAny _ _ (call (Value.builtin "len") [Value.str _ _]) _ _ _); refine PyProof.Rows.len_str ?hfit ?_; (case hfit => first | exact len_fitS (by assumption) | exact len_fits (by assumption)))
  k_with "exec For Name Name cons cons" => (refine for_raw ?_)
  k_with "call builtin:iter" => (k_here; (with_reducible show wpAny _ _ (call (Value.builtin _) [Value.ref _, Value.str _ _]) _ _ _); k_dflt (refine' call_iter2 ?k1 ?k2 ?k3 ?_; (case k1 => k_asm); (case k2 => k_asm); (case k3 => k_mem); k_whole); intro it9w h9w F9w N9w l9w G9w; (try k_lt l9w))
  k_with "inplaceOp Add str str" => (refine PyProof.Rows.iadd_str (hsz := ?hszi) ?_; (case hszi => assumption); intro _ _)
  k_with "exec For Name Name cons nil" => (refine Stop.out ?_)
  k_with "exec For Name Name cons cons" => (refine Stop.out ?_)
  k_with "call ref" => (refine Stop.out ?_)
  k_with "lt0" => (first | with_reducible assumption | exact And.left (by with_reducible assumption) | exact And.left (And.right (by with_reducible assumption)) | exact And.left (And.right (And.right (by with_reducible assumption))) | exact And.left (And.right (And.right (And.right (by with_reducible assumption)))) | exact And.left (And.right (And.right (And.right (And.right (by with_reducible assumption))))) | exact And.left (And.right (And.right (And.right (And.right (And.right (by with_reducible assumption)))))) | exact And.left (And.right (And.right (And.right (And.right (And.right (And.right (by with_reducible assumption))))))) | exact And.left (And.right (And.right (And.right (And.right (And.right (And.right (And.right (by with_reducible assumption)))))))) | exact And.left (And.right (And.right (And.right (And.right (And.right (And.right (And.right (And.right (by with_reducible assumption))))))))) | exact And.left (And.right (And.right (And.right (And.right (And.right (And.right (And.right (And.right (And.right (by with_reducible assumption)))))))))) | exact And.left (And.right (And.right (And.right (And.right (And.right (And.right (And.right (And.right (And.right (And.right (by with_reducible assumption))))))))))) | exact And.left (And.right (And.right (And.right (And.right (And.right (And.right (And.right (And.right (And.right (And.right (And.right (by with_reducible assumption)))))))))))) | exact And.right (by with_reducible assumption) | exact And.right (And.right (by with_reducible assumption)) | exact And.right (And.right (And.right (by with_reducible assumption))) | exact And.right (And.right (And.right (And.right (by with_reducible assumption)))) | exact And.right (And.right (And.right (And.right (And.right (by with_reducible assumption))))) | exact And.right (And.right (And.right (And.right (And.right (And.right (by with_reducible assumption)))))) | exact And.right (And.right (And.right (And.right (And.right (And.right (And.right (by with_reducible assumption))))))) | exact And.right (And.right (And.right (And.right (And.right (And.right (And.right (And.right (by with_reducible assumption)))))))) | exact And.right (And.right (And.right (And.right (And.right (And.right (And.right (And.right (And.right (by with_reducible assumption))))))))) | exact And.right (And.right (And.right (And.right (And.right (And.right (And.right (And.right (And.right (And.right (by with_reducible assumption)))))))))) | exact And.right (And.right (And.right (And.right (And.right (And.right (And.right (And.right (And.right (And.right (And.right (by with_reducible assumption))))))))))) | exact nat_lt1 _)
  k_with "ch" => (first | with_reducible assumption | (refine Nat.lt_trans (by with_reducible assumption) ?_; k_extra "ch"))
  k_with "lt" => (first | k_extra "lt0" | exact nat_ltS (by k_extra "lt0") | exact nat_ltS (nat_ltS (by k_extra "lt0")) | exact nat_ltS (nat_ltS (nat_ltS (by k_extra "lt0"))) | exact nat_ltS (nat_ltS (nat_ltS (nat_ltS (by k_extra "lt0")))) | exact nat_ltS (nat_ltS (nat_ltS (nat_ltS (nat_ltS (by k_extra "lt0"))))) | exact nat_ltS (nat_ltS (nat_ltS (nat_ltS (nat_ltS (nat_ltS (by k_extra "lt0")))))) | exact nat_ltS (nat_ltS (nat_ltS (nat_ltS (nat_ltS (nat_ltS (nat_ltS (by k_extra "lt0"))))))) | exact nat_ltS (nat_ltS (nat_ltS (nat_ltS (nat_ltS (nat_ltS (nat_ltS (nat_ltS (by k_extra "lt0")))))))) | k_extra "ch")
  k_with "omega" => (first
    | with_reducible assumption
    | exact Nat.ne_of_lt (by with_reducible assumption) | exact Nat.ne_of_gt (by with_reducible assumption)
    | exact nat_room2 (by with_reducible assumption) (by rfl) | exact nat_room1 (by with_reducible assumption) (by rfl) | exact nat_room3 (by with_reducible assumption) (by rfl) | exact nat_room0 (by with_reducible assumption)
    | exact nat_meas (by with_reducible assumption) | exact nat_meas (Nat.lt_succ_of_lt (by with_reducible assumption))
    | exact c_low (by with_reducible assumption) (by rfl) | exact c_high (by with_reducible assumption) (by rfl) | exact c_lt (by with_reducible assumption) (by rfl)
    | exact Nat.succ_le_of_lt (by with_reducible assumption) | exact Nat.lt_succ_of_le (by with_reducible assumption)
    | exact And.intro (by k_extra "lt") (by k_extra "lt")
    | exact Int.natCast_nonneg _ | exact Int.ofNat_lt.mpr (by with_reducible assumption) | exact Int.ofNat_le.mpr (by with_reducible assumption) | exact int_lt (by with_reducible assumption) (by decide) | exact int_le (by with_reducible assumption) (by decide) | exact Int.lt_of_lt_of_le (by with_reducible assumption) (by decide) | exact Int.le_trans (Int.le_of_lt (by with_reducible assumption)) (by decide)
    | exact Nat.ne_of_lt (by k_extra "lt") | exact Nat.ne_of_gt (by k_extra "lt") | k_extra "lt"
    | exact Nat.le_trans (by with_reducible assumption) (by decide) | exact nat_eqle (by with_reducible assumption) (by decide) | exact Nat.le_trans (Nat.succ_le_succ (by with_reducible assumption)) (by decide) | exact Nat.le_of_lt (by with_reducible assumption) | exact Nat.le_of_eq (by with_reducible assumption)
    | decide)
  exact True.intro
set_option maxRecDepth 100000 in
set_option maxHeartbeats 8000000 in
theorem token_plain (w : World) (l : List Nat) (a : LexA) (ho : a.Ordered) (hr : ReadCl w l a) (p : Program) (loose : List Str) (mean : ExcName → Option Value) (mg mb : Str → Option Value) (line : Int) (tl : Tok) (n : Nat) (pos : Nat) (tp : Tok) (np : Nat) (hpos : pos ≤ l.length) (hlen : l.length ≤ 400)
   (q r : List Nat) (b : Nat) (hb : b = 32 ∨ b = 9 ∨ b = 13 ∨ b = 10) (hq0 : q ≠ []) (hq : ∀ c ∈ q, 65 ≤ c ∧ c < 81) (hql : q.length ≤ 4) (hl : l.drop pos = q ++ b :: r) :
   Claim w p loose mean mg mb 57 5 (lexN w a line tl #[] n pos tp np) [.ref a.lx] (fun _ => True) (TokRet w a (line + if b = 10 then 1 else 0) #[] n ((pos + q.length + 1 : Nat) : Int) np fun t' => .str (strOf q) t') := by
  have ho' := ho
  obtain ⟨p0, p1, p2, p3, p4, p5, p6, p7, p8⟩ := ho'
  have hlen2 := congrArg List.length hl
  simp only [List.length_drop, List.length_cons, List.length_append] at hlen2
  have at1 : ∀ i, l[pos + i]? = (q ++ b :: r)[i]? := fun i => by
    have := congrArg (·[i]?) hl
    simpa only [List.getElem?_drop] using this
  have hq1 : 0 < q.length := List.length_pos_iff.mpr hq0
  dsimp only [Claim, PR, lexN] at *
  k_fill
  intro dp un gd cn cs ca ccd cl outer A₀ base h₀ L m s Q E hB hC hF hX hN hT hk hd hu hp hret
  refine wpAny_call ?_
  walk_at "mine enter"
  intro g L1 h1 FG F1 N1 B1 X1 T1 G1
  refine id ?_
  (with_reducible show wpAny _ _ _ _ _ _)
  k_fold
  k_steps
  unfold Stop
  refine for_raw ?_
  k_steps
  (with_reducible rename News _ _ _ _ => N0)
  rename_i iq _ _ _ _
  refine iter_call (by k_asm) (by k_mem) ?_
  refine ⟨One _, 1, .mk, ?_⟩
  refine One.all ?_
  (with_reducible rename News _ _ _ _ => N2)
  (with_reducible rename Fr _ _ _ _ => F2)
  refine char_next ho hr hpos hlen ?_ B1 hC F2 X1 T1 rfl ?_ ?_ N2 ?_ ?_
  · omega
  · ktr_room
  · ktr_units
  · intro c t1 h3 tk3 tl3 tp3 hc F3 N3
    have hc0 : q[0]? = some c := by
      have := at1 0
      rw [Nat.add_zero, hc, List.getElem?_append_left hq1] at this
      exact this.symm
    have hcm := hq c (List.mem_of_getElem? hc0)
    have hw := not_ws (c := c) (by omega) ⟨by omega, by omega, by omega, by omega⟩
    have hqc : (strOf [c] == Str.ofString "\"") = false := by rw [quote_is]; exact decide_eq_false (by omega)
    have hbc : (strOf [c] == Str.ofString "\\") = false := by rw [back_is]; exact decide_eq_false (by omega)
    have hrm := room0 (c := c)
    rw [if_neg (by omega), Int.add_zero] at N3
    dsimp only [tokN, lexN] at N3
    dsimp only [ForTurn]
    k_steps
    · unfold Stop
      refine for_raw ?_
      k_steps
      refine iter_call (by k_asm) (by k_mem) ?_
      (with_reducible rename News _ _ _ _ => N4)
      (with_reducible rename Fr _ _ _ _ => F4)
      refine ⟨PlaI g L1 s w a it9w iq line n pos np q, q.length, ?_, ?_⟩
      · exact ⟨1, _, _, _, _, _, _, _, Nat.le_refl _, hq1, fr_map2 F4 (Str.ofString "token") (Str.ofString "self") (by rw [List.take_add_one, hc0, List.take_zero, List.nil_append, lit_empty, strOf_append]; rfl) rfl, N4⟩
      · refine PlaI.all ?_
        intro i h5 tk5 u tn tl5 tp5 ts hi1 hi F5 N5
        refine char_next ho hr (by omega) hlen ?_ B1 hC F5 X1 T1 rfl ?_ ?_ N5 ?_ ?_
        · omega
        · ktr_room
        · ktr_units
        · intro c t6 h6 tk6 tl6 tp6 hc F6 N6
          rw [at1] at hc
          dsimp only [ForTurn]
          by_cases hiq : i < q.length
          · rw [List.getElem?_append_left hiq] at hc
            have hcm := hq c (List.mem_of_getElem? hc)
            rw [if_neg (by omega), Int.add_zero] at N6
            dsimp only [tokN, lexN] at N6
            have hrm : (strOf (q.take i)).length + (strOf [c]).length ≤ sizeLine := room1 (by rw [List.length_take]; omega)
            have hw := not_ws (c := c) (by omega) ⟨by omega, by omega, by omega, by omega⟩
            have hqc : (strOf [c] == Str.ofString "\"") = false := by rw [quote_is]; exact decide_eq_false (by omega)
            have hbc : (strOf [c] == Str.ofString "\\") = false := by rw [back_is]; exact decide_eq_false (by omega)
            k_steps
            (with_reducible rename Fr _ _ _ _ => F9)
            (with_reducible rename News _ _ _ _ => N9)
            exact ⟨q.length + 1 - (i + 1), by omega, i + 1, _, _, _, _, _, _, _, by omega, by omega, fr_map2 F9 (Str.ofString "token") (Str.ofString "self") (by rw [List.take_add_one, hc, Option.toList_some, ← strOf_append]; rfl) rfl, N9⟩
          · have hi2 : i = q.length := by omega
            subst hi2
            rw [List.getElem?_append_right (Nat.le_refl _), Nat.sub_self] at hc
            obtain rfl : b = c := Option.some.inj hc
            dsimp only [tokN, lexN] at N6
            have hw := is_ws hb
            k_steps
            (with_reducible rename Fr _ _ _ _ => F9)
            (with_reducible rename News _ _ _ _ => N9)
            dsimp only [ForFlow, OwitFlow]
            rw [show pos + q.length + 1 = pos + q.length + 1 by omega] at N9
            refine tok_done F9 N9 ?_
            rw [List.take_length]
            exact .mk _ _ _
        · intro h6 tk6 tl6 tp6 hc F6 N6
          rw [at1] at hc
          have := List.getElem?_eq_none_iff.mp hc
          simp only [List.length_append, List.length_cons] at this
          omega
  · intro h3 tk3 tl3 tp3 hc F3 N3
    have := at1 0
    rw [Nat.add_zero, hc, List.getElem?_append_left hq1] at this
    have := List.getElem?_eq_none_iff.mp this.symm
    omega
end
end
section
section
set_option inductive.autoPromoteIndices false in
set_option autoImplicit false in
inductive EscI (g : Heap) (L1 : Addr) (s : Shared) (w : World) (a : LexA) (it iq : Addr) (line : Int) (n pos np : Nat) (q : List Nat)  : Nat → Shared → Prop
  | mk (i : Nat) (h : Heap) (tk : Nat) (u : Str → Option Value) (tn : Tok) (tl5 : Tok) (tp5 : Tok) (ts : Tok) (c0 : 1 ≤ i) (c1 : i ≤ q.length) (c2 : Fr g L1 h (fun z => if z = Str.ofString "token" then some (.str (strOf (q.take i)) tn) else if z = Str.ofString "self" then some (.ref a.lx) else u z)) (c3 : News g L1 h (tokN w a it iq ts line tl5 n ((pos + 2 * i : Nat) : Int) tp5 np)) : EscI g L1 s w a it iq line n pos np q (q.length + 1 - i) ({ s with heap := h, toks := tk })
set_option autoImplicit false in
theorem EscI.all {g : Heap} {L1 : Addr} {s : Shared} {w : World} {a : LexA} {it : Addr} {iq : Addr} {line : Int} {n : Nat} {pos : Nat} {np : Nat} {q : List Nat} {P : Nat → Shared → Prop} (h : ∀ (i : Nat) (h : Heap) (tk : Nat) (u : Str → Option Value) (tn : Tok) (tl5 : Tok) (tp5 : Tok) (ts : Tok) (c0 : 1 ≤ i) (c1 : i ≤ q.length) (c2 : Fr g L1 h (fun z => if z = Str.ofString "token" then some (.str (strOf (q.take i)) tn) else if z = Str.ofString "self" then some (.ref a.lx) else u z)) (c3 : News g L1 h (tokN w a it iq ts line tl5 n ((pos + 2 * i : Nat) : Int) tp5 np)), P (q.length + 1 - i) ({ s with heap := h, toks := tk })) : ∀ (x0 : Nat) (x1 : Shared), EscI g L1 s w a it iq line n pos np q x0 x1 → P x0 x1 :=
  fun _ _ t => EscI.rec (motive := fun x0 x1 _ => P x0 x1) h t
theorem words_token_escaped : True := by
  w_top off
  k_with_none
  k_with "mine ktr_room" => ((try simp only [depth_under_make, depth_under_kw, depth_in1, depth_deeper, depth_caller]); (try dsimp only [ktrTop]); first | decide | omega)
  k_with "mine ktr_units" => ((try simp only [units_in1, units_deeper, Around.mark_units, units_caller]); (try dsimp only [ktrTop]); first | (rw [cLine_is]; decide) | omega)
  k_with "mine call by" => ((case k1 => k_asm); (case k2 => kn_code); (case k3 => k_asm); (case k4 => k_asm); (case k5 => (refine' News.subs ?k51 ?k52; (case k51 => k_asm); (case k52 => ((repeat (refine List.forall_mem_cons.mpr (And.intro (by k_mem) ?_))); exact fun _ h => nomatch h)))); (case k6 => k_asm); (case k7 => first | exact rfl | assumption); (case k8 => ktr_room); (case k9 => ktr_units); (case kp => first | exact trivial | assumption))
  k_with "binaryOp Add str str" => (refine PyProof.Rows.add_str (hsz := ?hszq) ?_; (case hszq => assumption); intro _ _)
  k_with "call builtin:hex" => (refine P.hex_of_int ?_ (hsz := ?hszq); (case hszq => assumption))
  k_with "call builtin:list.append" => (k_here; (with_reducible show wpAny _ _ (call (Value.builtin _) [Value.ref _, _]) _ _ _); k_dflt (refine' append_K ?k1 ?k2 ?k3 ?_ ?z; (case k1 => k_asm); (case k2 => k_asm); (case k3 => k_upd); (case z => assumption); k_whole); intro h9w F9w N9w; (try k_sweep))
  k_with "call builtin:dict.get" => (k_here; k_dflt (refine' flag_get ?k1 ?k2 ?k3 ?k4 ?_; (case k1 => k_asm); (case k2 => exact Fr.keep (by with_reducible assumption)); (case k3 => assumption); (case k4 => assumption)); intro t9w tk9w)
  k_with "exec For Name Call cons nil" => (refine for_raw ?_)
  k_with "exec For Name Call cons cons" => (refine for_raw ?_)
  k_with "exec For Name Name cons nil" => (refine for_raw ?_)
  k_with "exec For Name Subscript cons nil" => (refine for_raw ?_)
  k_with "exec While Name cons nil" => (refine Stop.out ?_)
  k_with "subscriptTail" => (k_here; (with_reducible show wpAny _ _ (subscriptTail _ (Expr.Slice _ _ none _) (Value.bytes _ _) (Value.ref _)) _ _ _); (with_reducible rename Fr _ _ _ _ => F9w); (with_reducible rename News _ _ _ _ => N9w); (refine KBy.slice_N (s := ⟨_, _, _, _, _⟩) F9w N9w (by constructor) (by constructor) (by assumption) (by assumption) ?_); intro _ _ _ _ _)
  k_with "binaryOp Add bytes bytes" => (k_here; (with_reducible show wpAny _ _ (binaryOp Operator.Add (Value.bytes _ _) (Value.bytes _ _)) _ _ _); (refine KBy.add_bytes (by assumption) ?_); intro _ _)
  k_with "mine enter" => (k_dflt (refine' enter_plain ?k1 ?k2 ?k3 ?k4 ?k5 ?kA ?kF ?kK ?k6 ?k7 ?k8 ?k9 ?kB ?hr ?_ ?c2 ?c3 ?c4 ?c5; (case kA => exact rfl); (case kF => exact rfl); (case kK => assumption); (case k1 => k_asm); (case k2 => k_asm); (case k3 => k_asm); (case k4 => k_asm); (case k5 => k_asm); (case k6 => k_is); (case k7 => k_is); (case k8 => ktr_room); (case k9 => exact BindsTo.of_eq rfl); (case c5 => decide); (case kB => exact locs rfl); (case hr => assumption); (case c2 => exact rfl); (case c3 => exact rfl); (case c4 => exact rfl); k_whole))
  k_with "mine cells" => (k_dflt (refine' enter_cells ?k1 ?k2 ?k3 ?k4 ?k5 ?kA ?kF ?kK ?k6 ?k7 ?k8 ?k9 ?kB ?kD ?hr ?_ ?c2 ?c3 ?c4; (case kA => exact rfl); (case kF => exact rfl); (case kK => assumption); (case k1 => k_asm); (case k2 => k_asm); (case k3 => k_asm); (case k4 => k_asm); (case k5 => k_asm); (case k6 => k_is); (case k7 => k_is); (case k8 => ktr_room); (case k9 => exact BindsTo.of_eq rfl); (case kB => exact rfl); (case kD => decide +kernel); (case hr => assumption); (case c2 => exact rfl); (case c3 => exact rfl); (case c4 => exact rfl); k_whole))
  k_with "mine made" => (k_dflt (refine' enter_made ?k1 ?k2 ?k3 ?k4 ?k5 ?kA ?kF ?kK ?k6 ?kd ?k7 ?k8 ?k9 ?kB ?hr ?_ ?c2 ?c3 ?c4 ?c5; (case kA => exact rfl); (case kF => exact rfl); (case kK => assumption); (case k1 => k_asm); (case k2 => k_asm); (case k3 => k_asm); (case k4 => k_asm); (case k5 => k_asm); (case k6 => k_mem); (case kd => exact rfl); (case k7 => exact codeRec_news (by k_asm) (by k_mem) (by assumption) (by assumption)); (case k8 => ktr_room); (case k9 => exact BindsTo.of_eq rfl); (case c5 => decide); (case kB => exact locs rfl); (case hr => assumption); (case c2 => exact rfl); (case c3 => exact rfl); (case c4 => exact rfl); k_whole))
  k_with "subscriptTail" => (k_here; (with_reducible show wpAny _ _ (subscriptTail _ (Expr.Slice _ _ none _) (Value.str _ _) (Value.ref _)) _ _ _); (with_reducible rename Fr _ _ _ _ => F9w); (with_reducible rename News _ _ _ _ => N9w); (first
  | ((with_reducible show wpAny _ _ (subscriptTail _ (Expr.Slice (some _) (some _) none _) _ _) _ _ _); (refine slice_strN_ss (hsz := ?hsz) (s := ⟨_, _, _, _, _⟩) F9w N9w ?_); (case hsz => assumption))
  | ((with_reducible show wpAny _ _ (subscriptTail _ (Expr.Slice none (some _) none _) _ _) _ _ _); (refine slice_strN_ns (hsz := ?hsz) (s := ⟨_, _, _, _, _⟩) F9w N9w ?_); (case hsz => assumption))); intro _ _ _ _ _)
  k_with "call builtin:len" => (k_here; (with_reducible show wpAny _ _ (call (Value.builtin "len") [Value.str _ _]) _ _ _); refine PyProof.Rows.len_str ?hfit ?_; (case hfit => first | exact len_fitS (by assumption) | exact len_fits (by assumption)))
  k_with "exec For Name Name cons cons" => (refine for_raw ?_)
  k_with "call builtin:iter" => (k_here; (with_reducible show wpAny _ _ (call (Value.builtin _) [Value.ref _, Value.str _ _]) _ _ _); k_dflt (refine' call_iter2 ?k1 ?k2 ?k3 ?_; (case k1 => k_asm); (case k2 => k_asm); (case k3 => k_mem); k_whole); intro it9w h9w F9w N9w l9w G9w; (try k_lt l9w))
  k_with "inplaceOp Add str str" => (refine PyProof.Rows.iadd_str (hsz := ?hszi) ?_; (case hszi => assumption); intro _ _)
  k_with "exec For Name Name cons nil" => (refine Stop.out ?_)
  k_with "exec For Name Name cons cons" => (refine Stop.out ?_)
  k_with "call ref" => (refine Stop.out ?_)
  k_with "lt0" => (first | with_reducible assumption | exact And.left (by with_reducible assumption) | exact And.left (And.right (by with_reducible assumption)) | exact And.left (And.right (And.right (by with_reducible assumption))) | exact And.left (And.right (And.right (And.right (by with_reducible assumption)))) | exact And.left (And.right (And.right (And.right (And.right (by with_reducible assumption))))) | exact And.left (And.right (And.right (And.right (And.right (And.right (by with_reducible assumption)))))) | exact And.left (And.right (And.right (And.right (And.right (And.right (And.right (by with_reducible assumption))))))) | exact And.left (And.right (And.right (And.right (And.right (And.right (And.right (And.right (by with_reducible assumption)))))))) | exact And.left (And.right (And.right (And.right (And.right (And.right (And.right (And.right (And.right (by with_reducible assumption))))))))) | exact And.left (And.right (And.right (And.right (And.right (And.right (And.right (And.right (And.right (And.right (by with_reducible assumption)))))))))) | exact And.left (And.right (And.right (And.right (And.right (And.right (And.right (And.right (And.right (And.right (And.right (by with_reducible assumption))))))))))) | exact And.left (And.right (And.right (And.right (And.right (And.right (And.right (And.right (And.right (And.right (And.right (And.right (by with_reducible assumption)))))))))))) | exact And.right (by with_reducible assumption) | exact And.right (And.right (by with_reducible assumption)) | exact And.right (And.right (And.right (by with_reducible assumption))) | exact And.right (And.right (And.right (And.right (by with_reducible assumption)))) | exact And.right (And.right (And.right (And.right (And.right (by with_reducible assumption))))) | exact And.right (And.right (And.right (And.right (And.right (And.right (by with_reducible assumption)))))) | exact And.right (And.right (And.right (And.right (And.right (And.right (And.right (by with_reducible assumption))))))) | exact And.right (And.right (And.right (And.right (And.right (And.right (And.right (And.right (by with_reducible assumption)))))))) | exact And.right (And.right (And.right (And.right (And.right (And.right (And.right (And.right (And.right (by with_reducible assumption))))))))) | exact And.right (And.right (And.right (And.right (And.right (And.right (And.right (And.right (And.right (And.right (by with_reducible assumption)))))))))) | exact And.right (And.right (And.right (And.right (And.right (And.right (And.right (And.right (And.right (And.right (And.right (by with_reducible assumption))))))))))) | exact nat_lt1 _)
  k_with "ch" => (first | with_reducible assumption | (refine Nat.lt_trans (by with_reducible assumption) ?_; k_extra "ch"))
  k_with "lt" => (first | k_extra "lt0" | exact nat_ltS (by k_extra "lt0") | exact nat_ltS (nat_ltS (by k_extra "lt0")) | exact nat_ltS (nat_ltS (nat_ltS (by k_extra "lt0"))) | exact nat_ltS (nat_ltS (nat_ltS (nat_ltS (by k_extra "lt0")))) | exact nat_ltS (nat_ltS (nat_ltS (nat_ltS (nat_ltS (by k_extra "lt0"))))) | exact nat_ltS (nat_ltS (nat_ltS (nat_ltS (nat_ltS (nat_ltS (by k_extra "lt0")))))) | exact nat_ltS (nat_ltS (nat_ltS (nat_ltS (nat_ltS (nat_ltS (nat_ltS (by k_extra "lt0"))))))) | exact nat_ltS (nat_ltS (nat_ltS (nat_ltS (nat_ltS (nat_ltS (nat_ltS (nat_ltS (by k_extra "lt0")))))))) | k_extra "ch")
  k_with "omega" => (first
    | with_reducible assumption
    | exact Nat.ne_of_lt (by with_reducible assumption) | exact Nat.ne_of_gt (by with_reducible assumption)
    | exact nat_room2 (by with_reducible assumption) (by rfl) | exact nat_room1 (by with_reducible assumption) (by rfl) | exact nat_room3 (by with_reducible assumption) (by rfl) | exact nat_room0 (by with_reducible assumption)
    | exact nat_meas (by with_reducible assumption) | exact nat_meas (Nat.lt_succ_of_lt (by with_reducible assumption))
    | exact c_low (by with_reducible assumption) (by rfl) | exact c_high (by with_reducible assumption) (by rfl) | exact c_lt (by with_reducible assumption) (by rfl)
    | exact Nat.succ_le_of_lt (by with_reducible assumption) | exact Nat.lt_succ_of_le (by with_reducible assumption)
    | exact And.intro (by k_extra "lt") (by k_extra "lt")
    | exact Int.natCast_nonneg _ | exact Int.ofNat_lt.mpr (by with_reducible assumption) | exact Int.ofNat_le.mpr (by with_reducible assumption) | exact int_lt (by with_reducible assumption) (by decide) | exact int_le (by with_reducible assumption) (by decide) | exact Int.lt_of_lt_of_le (by with_reducible assumption) (by decide) | exact Int.le_trans (Int.le_of_lt (by with_reducible assumption)) (by decide)
    | exact Nat.ne_of_lt (by k_extra "lt") | exact Nat.ne_of_gt (by k_extra "lt") | k_extra "lt"
    | exact Nat.le_trans (by with_reducible assumption) (by decide) | exact nat_eqle (by with_reducible assumption) (by decide) | exact Nat.le_trans (Nat.succ_le_succ (by with_reducible assumption)) (by decide) | exact Nat.le_of_lt (by with_reducible assumption) | exact Nat.le_of_eq (by with_reducible assumption)
    | decide)
  exact True.intro
set_option maxRecDepth 100000 in
set_option maxHeartbeats 8000000 in
theorem token_escaped (w : World) (l : List Nat) (a : LexA) (ho : a.Ordered) (hr : ReadCl w l a) (p : Program) (loose : List Str) (mean : ExcName → Option Value) (mg mb : Str → Option Value) (line : Int) (tl : Tok) (n : Nat) (pos : Nat) (tp : Tok) (np : Nat) (hpos : pos ≤ l.length) (hlen : l.length ≤ 400)
   (q r : List Nat) (b : Nat) (hb : b = 32 ∨ b = 9 ∨ b = 13 ∨ b = 10) (hq0 : q ≠ []) (hq : ∀ c ∈ q, 65 ≤ c ∧ c < 81) (hql : q.length ≤ 4) (hl : l.drop pos = escL q ++ b :: r) :
   Claim w p loose mean mg mb 57 5 (lexN w a line tl #[] n pos tp np) [.ref a.lx] (fun _ => True) (TokRet w a (line + if b = 10 then 1 else 0) #[] n ((pos + 2 * q.length + 1 : Nat) : Int) np fun t' => .str (strOf q) t') := by
  have ho' := ho
  obtain ⟨p0, p1, p2, p3, p4, p5, p6, p7, p8⟩ := ho'
  have hlen2 := congrArg List.length hl
  simp only [List.length_drop, List.length_cons, List.length_append, escL_length] at hlen2
  have at1 : ∀ i, l[pos + i]? = (escL q ++ b :: r)[i]? := fun i => by
    have := congrArg (·[i]?) hl
    simpa only [List.getElem?_drop] using this
  have hq1 : 0 < q.length := List.length_pos_iff.mpr hq0
  dsimp only [Claim, PR, lexN] at *
  k_fill
  intro dp un gd cn cs ca ccd cl outer A₀ base h₀ L m s Q E hB hC hF hX hN hT hk hd hu hp hret
  refine wpAny_call ?_
  walk_at "mine enter"
  intro g L1 h1 FG F1 N1 B1 X1 T1 G1
  refine id ?_
  (with_reducible show wpAny _ _ _ _ _ _)
  k_fold
  k_steps
  unfold Stop
  refine for_raw ?_
  k_steps
  (with_reducible rename News _ _ _ _ => N0)
  rename_i iq _ _ _ _
  refine iter_call (by k_asm) (by k_mem) ?_
  refine ⟨One _, 1, .mk, ?_⟩
  refine One.all ?_
  (with_reducible rename News _ _ _ _ => N2)
  (with_reducible rename Fr _ _ _ _ => F2)
  refine char_next ho hr hpos hlen ?_ B1 hC F2 X1 T1 rfl ?_ ?_ N2 ?_ ?_
  · omega
  · ktr_room
  · ktr_units
  · intro c t1 h3 tk3 tl3 tp3 hc F3 N3
    have c0 : c = 92 := by
      have := at1 0
      rw [Nat.add_zero, hc, escL_even q 0 _ hq1] at this
      exact Option.some.inj this
    subst c0
    obtain ⟨d, hd0⟩ : ∃ d, q[0]? = some d := ⟨q[0], List.getElem?_eq_getElem hq1⟩
    have hdm := hq d (List.mem_of_getElem? hd0)
    have hd1 : l[pos + 1]? = some d := by rw [at1, escL_odd q 0 _ hq1, hd0]
    have hw := not_ws (c := 92) (by decide) (by decide)
    have hqc : (strOf [92] == Str.ofString "\"") = false := by rw [quote_is]; rfl
    have hbc : (strOf [92] == Str.ofString "\\") = true := by rw [back_is]; rfl
    have hrm := room0 (c := d)
    rw [if_neg (by decide), Int.add_zero] at N3
    dsimp only [tokN, lexN] at N3
    dsimp only [ForTurn]
    k_steps
    unfold Stop
    (with_reducible rename News _ _ _ _ => NA)
    k_call_by "mine" (ClaimC.toClaim (char_spec w l a ho hr p loose mean mg mb _ _ #[] n (pos + 1) _ np (by omega) hlen))
    refine TokRet.all ?_
    intro tl' tp' t' h2 tk2 F2 N2 G2 O2
    have N3 := tok_join ho (by omega) NA G2 N2
    clear N2 G2 O2
    rw [chunk_some hd1] at N3 ⊢
    rw [if_neg (by simp only [List.cons.injEq, and_true]; omega), Int.add_zero] at N3
    dsimp only [tokN, lexN] at N3
    k_steps
    · unfold Stop
      refine for_raw ?_
      k_steps
      refine iter_call (by k_asm) (by k_mem) ?_
      (with_reducible rename News _ _ _ _ => N4)
      (with_reducible rename Fr _ _ _ _ => F4)
      refine ⟨EscI g L1 s w a it9w iq line n pos np q, q.length, ?_, ?_⟩
      · exact ⟨1, _, _, _, _, _, _, _, Nat.le_refl _, hq1, fr_map2 F4 (Str.ofString "token") (Str.ofString "self") (by rw [List.take_add_one, hd0, List.take_zero, List.nil_append, lit_empty, strOf_append]; rfl) rfl, N4⟩
      · refine EscI.all ?_
        intro i h5 tk5 u tn tl5 tp5 ts hi1 hi F5 N5
        refine char_next ho hr (by omega) hlen ?_ B1 hC F5 X1 T1 rfl ?_ ?_ N5 ?_ ?_
        · omega
        · ktr_room
        · ktr_units
        · intro c t6 h6 tk6 tl6 tp6 hc F6 N6
          rw [at1] at hc
          dsimp only [ForTurn]
          by_cases hiq : i < q.length
          · rw [escL_even q i _ hiq] at hc
            obtain rfl : 92 = c := Option.some.inj hc
            obtain ⟨d, hd0⟩ : ∃ d, q[i]? = some d := ⟨q[i], List.getElem?_eq_getElem hiq⟩
            have hdm := hq d (List.mem_of_getElem? hd0)
            have hd1 : l[pos + 2 * i + 1]? = some d := by rw [Nat.add_assoc, at1, escL_odd q i _ hiq, hd0]
            rw [if_neg (by omega), Int.add_zero] at N6
            dsimp only [tokN, lexN] at N6
            have hrm : (strOf (q.take i)).length + (strOf [d]).length ≤ sizeLine := room1 (by rw [List.length_take]; omega)
            k_steps
            unfold Stop
            (with_reducible rename News _ _ _ _ => NA)
            k_call_by "mine" (ClaimC.toClaim (char_spec w l a ho hr p loose mean mg mb _ _ #[] n (pos + 2 * i + 1) _ np (by omega) hlen))
            refine TokRet.all ?_
            intro tl' tp' t' h2 tk2 F2 N2 G2 O2
            have N3 := tok_join ho (by omega) NA G2 N2
            clear N2 G2 O2
            rw [chunk_some hd1] at N3 ⊢
            rw [if_neg (by simp only [List.cons.injEq, and_true]; omega), Int.add_zero] at N3
            dsimp only [tokN, lexN] at N3
            k_steps
            (with_reducible rename Fr _ _ _ _ => F9)
            (with_reducible rename News _ _ _ _ => N9)
            exact ⟨q.length + 1 - (i + 1), by omega, i + 1, _, _, _, _, _, _, _, by omega, by omega, fr_map2 F9 (Str.ofString "token") (Str.ofString "self") (by rw [List.take_add_one, hd0, Option.toList_some, ← strOf_append]; rfl) rfl, N9⟩
            exact (no_of (not_ws (c := 92) (by decide) (by decide)) (by assumption)).elim
          · have hi2 : i = q.length := by omega
            subst hi2
            rw [escL_end] at hc
            obtain rfl : b = c := Option.some.inj hc
            dsimp only [tokN, lexN] at N6
            have hw := is_ws hb
            k_steps
            (with_reducible rename Fr _ _ _ _ => F9)
            (with_reducible rename News _ _ _ _ => N9)
            dsimp only [ForFlow, OwitFlow]
            refine tok_done F9 N9 ?_
            rw [List.take_length]
            exact .mk _ _ _
        · intro h6 tk6 tl6 tp6 hc F6 N6
          rw [at1] at hc
          have := List.getElem?_eq_none_iff.mp hc
          simp only [List.length_append, List.length_cons, escL_length] at this
          omega
    exact (no_of (not_ws (c := 92) (by decide) (by decide)) (by assumption)).elim
  · intro h3 tk3 tl3 tp3 hc F3 N3
    have := at1 0
    rw [Nat.add_zero, hc, escL_even q 0 _ hq1] at this
    cases this
end
end
section
section
theorem words_token_end : True := by
  w_top off
  k_with_none
  k_with "mine ktr_room" => ((try simp only [depth_under_make, depth_under_kw, depth_in1, depth_deeper, depth_caller]); (try dsimp only [ktrTop]); first | decide | omega)
  k_with "mine ktr_units" => ((try simp only [units_in1, units_deeper, Around.mark_units, units_caller]); (try dsimp only [ktrTop]); first | (rw [cLine_is]; decide) | omega)
  k_with "mine call by" => ((case k1 => k_asm); (case k2 => kn_code); (case k3 => k_asm); (case k4 => k_asm); (case k5 => (refine' News.subs ?k51 ?k52; (case k51 => k_asm); (case k52 => ((repeat (refine List.forall_mem_cons.mpr (And.intro (by k_mem) ?_))); exact fun _ h => nomatch h)))); (case k6 => k_asm); (case k7 => first | exact rfl | assumption); (case k8 => ktr_room); (case k9 => ktr_units); (case kp => first | exact trivial | assumption))
  k_with "binaryOp Add str str" => (refine PyProof.Rows.add_str (hsz := ?hszq) ?_; (case hszq => assumption); intro _ _)
  k_with "call builtin:hex" => (refine P.hex_of_int ?_ (hsz := ?hszq); (case hszq => assumption))
  k_with "call builtin:list.append" => (k_here; (with_reducible show wpAny _ _ (call (Value.builtin _) [Value.ref _, _]) _ _ _); k_dflt (refine' append_K ?k1 ?k2 ?k3 ?_ ?z; (case k1 => k_asm); (case k2 => k_asm); (case k3 => k_upd); (case z => assumption); k_whole); intro h9w F9w N9w; (try k_sweep))
  k_with "call builtin:dict.get" => (k_here; k_dflt (refine' flag_get ?k1 ?k2 ?k3 ?k4 ?_; (case k1 => k_asm); (case k2 => exact Fr.keep (by with_reducible assumption)); (case k3 => assumption); (case k4 => assumption)); intro t9w tk9w)
  k_with "exec For Name Call cons nil" => (refine for_raw ?_)
  k_with "exec For Name Call cons cons" => (refine for_raw ?_)
  k_with "exec For Name Name cons nil" => (refine for_raw ?_)
  k_with "exec For Name Subscript cons nil" => (refine for_raw ?_)
  k_with "exec While Name cons nil" => (refine Stop.out ?_)
  k_with "subscriptTail" => (k_here; (with_reducible show wpAny _ _ (subscriptTail _ (Expr.Slice _ _ none _) (Value.bytes _ _) (Value.ref _)) _ _ _); (with_reducible rename Fr _ _ _ _ => F9w); (with_reducible rename News _ _ _ _ => N9w); (refine KBy.slice_N (s := ⟨_, _, _, _, _⟩) F9w N9w (by constructor) (by constructor) (by assumption) (by assumption) ?_); intro _ _ _ _ _)
  k_with "binaryOp Add bytes bytes" => (k_here; (with_reducible show wpAny _ _ (binaryOp Operator.Add (Value.bytes _ _) (Value.bytes _ _)) _ _ _); (refine KBy.add_bytes (by assumption) ?_); intro _ _)
  k_with "mine enter" => (k_dflt (refine' enter_plain ?k1 ?k2 ?k3 ?k4 ?k5 ?kA ?kF ?kK ?k6 ?k7 ?k8 ?k9 ?kB ?hr ?_ ?c2 ?c3 ?c4 ?c5; (case kA => exact rfl); (case kF => exact rfl); (case kK => assumption); (case k1 => k_asm); (case k2 => k_asm); (case k3 => k_asm); (case k4 => k_asm); (case k5 => k_asm); (case k6 => k_is); (case k7 => k_is); (case k8 => ktr_room); (case k9 => exact BindsTo.of_eq rfl); (case c5 => decide); (case kB => exact locs rfl); (case hr => assumption); (case c2 => exact rfl); (case c3 => exact rfl); (case c4 => exact rfl); k_whole))
  k_with "mine cells" => (k_dflt (refine' enter_cells ?k1 ?k2 ?k3 ?k4 ?k5 ?kA ?kF ?kK ?k6 ?k7 ?k8 ?k9 ?kB ?kD ?hr ?_ ?c2 ?c3 ?c4; (case kA => exact rfl); (case kF => exact rfl); (case kK => assumption); (case k1 => k_asm); (case k2 => k_asm); (case k3 => k_asm); (case k4 => k_asm); (case k5 => k_asm); (case k6 => k_is); (case k7 => k_is); (case k8 => ktr_room); (case k9 => exact BindsTo.of_eq rfl); (case kB => exact rfl); (case kD => decide +kernel); (case hr => assumption); (case c2 => exact rfl); (case c3 => exact rfl); (case c4 => exact rfl); k_whole))
  k_with "mine made" => (k_dflt (refine' enter_made ?k1 ?k2 ?k3 ?k4 ?k5 ?kA ?kF ?kK ?k6 ?kd ?k7 ?k8 ?k9 ?kB ?hr ?_ ?c2 ?c3 ?c4 ?c5; (case kA => exact rfl); (case kF => exact rfl); (case kK => assumption); (case k1 => k_asm); (case k2 => k_asm); (case k3 => k_asm); (case k4 => k_asm); (case k5 => k_asm); (case k6 => k_mem); (case kd => exact rfl); (case k7 => exact codeRec_news (by k_asm) (by k_mem) (by assumption) (by assumption)); (case k8 => ktr_room); (case k9 => exact BindsTo.of_eq rfl); (case c5 => decide); (case kB => exact locs rfl); (case hr => assumption); (case c2 => exact rfl); (case c3 => exact rfl); (case c4 => exact rfl); k_whole))
  k_with "subscriptTail" => (k_here; (with_reducible show wpAny _ _ (subscriptTail _ (Expr.Slice _ _ none _) (Value.str _ _) (Value.ref _)) _ _ _); (with_reducible rename Fr _ _ _ _ => F9w); (with_reducible rename News _ _ _ _ => N9w); (first
  | ((with_reducible show wpAny _ _ (subscriptTail _ (Expr.Slice (some _) (some _) none _) _ _) _ _ _); (refine slice_strN_ss (hsz := ?hsz) (s := ⟨_, _, _, _, _⟩) F9w N9w ?_); (case hsz => assumption))
  | ((with_reducible show wpAny _ _ (subscriptTail _ (Expr.Slice none (some _) none _) _ _) _ _ _); (refine slice_strN_ns (hsz := ?hsz) (s := ⟨_, _, _, _, _⟩) F9w N9w ?_); (case hsz => assumption))); intro _ _ _ _ _)
  k_with "call builtin:len" => (k_here; (with_reducible show wpAny _ _ (call (Value.builtin "len") [Value.str _ _]) _ _ _); refine PyProof.Rows.len_str ?hfit ?_; (case hfit => first | exact len_fitS (by assumption) | exact len_fits (by assumption)))
  k_with "exec For Name Name cons cons" => (refine for_raw ?_)
  k_with "call builtin:iter" => (k_here; (with_reducible show wpAny _ _ (call (Value.builtin _) [Value.ref _, Value.str _ _]) _ _ _); k_dflt (refine' call_iter2 ?k1 ?k2 ?k3 ?_; (case k1 => k_asm); (case k2 => k_asm); (case k3 => k_mem); k_whole); intro it9w h9w F9w N9w l9w G9w; (try k_lt l9w))
  k_with "inplaceOp Add str str" => (refine PyProof.Rows.iadd_str (hsz := ?hszi) ?_; (case hszi => assumption); intro _ _)
  k_with "exec For Name Name cons nil" => (refine Stop.out ?_)
  k_with "exec For Name Name cons cons" => (refine Stop.out ?_)
  k_with "call ref" => (refine Stop.out ?_)
  k_with "lt0" => (first | with_reducible assumption | exact And.left (by with_reducible assumption) | exact And.left (And.right (by with_reducible assumption)) | exact And.left (And.right (And.right (by with_reducible assumption))) | exact And.left (And.right (And.right (And.right (by with_reducible assumption)))) | exact And.left (And.right (And.right (And.right (And.right (by with_reducible assumption))))) | exact And.left (And.right (And.right (And.right (And.right (And.right (by with_reducible assumption)))))) | exact And.left (And.right (And.right (And.right (And.right (And.right (And.right (by with_reducible assumption))))))) | exact And.left (And.right (And.right (And.right (And.right (And.right (And.right (And.right (by with_reducible assumption)))))))) | exact And.left (And.right (And.right (And.right (And.right (And.right (And.right (And.right (And.right (by with_reducible assumption))))))))) | exact And.left (And.right (And.right (And.right (And.right (And.right (And.right (And.right (And.right (And.right (by with_reducible assumption)))))))))) | exact And.left (And.right (And.right (And.right (And.right (And.right (And.right (And.right (And.right (And.right (And.right (by with_reducible assumption))))))))))) | exact And.left (And.right (And.right (And.right (And.right (And.right (And.right (And.right (And.right (And.right (And.right (And.right (by with_reducible assumption)))))))))))) | exact And.right (by with_reducible assumption) | exact And.right (And.right (by with_reducible assumption)) | exact And.right (And.right (And.right (by with_reducible assumption))) | exact And.right (And.right (And.right (And.right (by with_reducible assumption)))) | exact And.right (And.right (And.right (And.right (And.right (by with_reducible assumption))))) | exact And.right (And.right (And.right (And.right (And.right (And.right (by with_reducible assumption)))))) | exact And.right (And.right (And.right (And.right (And.right (And.right (And.right (by with_reducible assumption))))))) | exact And.right (And.right (And.right (And.right (And.right (And.right (And.right (And.right (by with_reducible assumption)))))))) | exact And.right (And.right (And.right (And.right (And.right (And.right (And.right (And.right (And.right (by with_reducible assumption))))))))) | exact And.right (And.right (And.right (And.right (And.right (And.right (And.right (And.right (And.right (And.right (by with_reducible assumption)))))))))) | exact And.right (And.right (And.right (And.right (And.right (And.right (And.right (And.right (And.right (And.right (And.right (by with_reducible assumption))))))))))) | exact nat_lt1 _)
  k_with "ch" => (first | with_reducible assumption | (refine Nat.lt_trans (by with_reducible assumption) ?_; k_extra "ch"))
  k_with "lt" => (first | k_extra "lt0" | exact nat_ltS (by k_extra "lt0") | exact nat_ltS (nat_ltS (by k_extra "lt0")) | exact nat_ltS (nat_ltS (nat_ltS (by k_extra "lt0"))) | exact nat_ltS (nat_ltS (nat_ltS (nat_ltS (by k_extra "lt0")))) | exact nat_ltS (nat_ltS (nat_ltS (nat_ltS (nat_ltS (by k_extra "lt0"))))) | exact nat_ltS (nat_ltS (nat_ltS (nat_ltS (nat_ltS (nat_ltS (by k_extra "lt0")))))) | exact nat_ltS (nat_ltS (nat_ltS (nat_ltS (nat_ltS (nat_ltS (nat_ltS (by k_extra "lt0"))))))) | exact nat_ltS (nat_ltS (nat_ltS (nat_ltS (nat_ltS (nat_ltS (nat_ltS (nat_ltS (by k_extra "lt0")))))))) | k_extra "ch")
  k_with "omega" => (first
    | with_reducible assumption
    | exact Nat.ne_of_lt (by with_reducible assumption) | exact Nat.ne_of_gt (by with_reducible assumption)
    | exact nat_room2 (by with_reducible assumption) (by rfl) | exact nat_room1 (by with_reducible assumption) (by rfl) | exact nat_room3 (by with_reducible assumption) (by rfl) | exact nat_room0 (by with_reducible assumption)
    | exact nat_meas (by with_reducible assumption) | exact nat_meas (Nat.lt_succ_of_lt (by with_reducible assumption))
    | exact c_low (by with_reducible assumption) (by rfl) | exact c_high (by with_reducible assumption) (by rfl) | exact c_lt (by with_reducible assumption) (by rfl)
    | exact Nat.succ_le_of_lt (by with_reducible assumption) | exact Nat.lt_succ_of_le (by with_reducible assumption)
    | exact And.intro (by k_extra "lt") (by k_extra "lt")
    | exact Int.natCast_nonneg _ | exact Int.ofNat_lt.mpr (by with_reducible assumption) | exact Int.ofNat_le.mpr (by with_reducible assumption) | exact int_lt (by with_reducible assumption) (by decide) | exact int_le (by with_reducible assumption) (by decide) | exact Int.lt_of_lt_of_le (by with_reducible assumption) (by decide) | exact Int.le_trans (Int.le_of_lt (by with_reducible assumption)) (by decide)
    | exact Nat.ne_of_lt (by k_extra "lt") | exact Nat.ne_of_gt (by k_extra "lt") | k_extra "lt"
    | exact Nat.le_trans (by with_reducible assumption) (by decide) | exact nat_eqle (by with_reducible assumption) (by decide) | exact Nat.le_trans (Nat.succ_le_succ (by with_reducible assumption)) (by decide) | exact Nat.le_of_lt (by with_reducible assumption) | exact Nat.le_of_eq (by with_reducible assumption)
    | decide)
  exact True.intro
set_option maxRecDepth 100000 in
set_option maxHeartbeats 8000000 in
theorem token_end (w : World) (l : List Nat) (a : LexA) (ho : a.Ordered) (hr : ReadCl w l a) (p : Program) (loose : List Str) (mean : ExcName → Option Value) (mg mb : Str → Option Value) (line : Int) (tl : Tok) (n : Nat) (pos : Nat) (tp : Tok) (np : Nat) (hpos : pos ≤ l.length) (hlen : l.length ≤ 400)
   (hl : l[pos]? = none) :
   Claim w p loose mean mg mb 57 5 (lexN w a line tl #[] n pos tp np) [.ref a.lx] (fun _ => True) (TokRet w a line #[] n (pos : Int) np fun t' => .str (strOf []) t') := by
  have ho' := ho
  obtain ⟨p0, p1, p2, p3, p4, p5, p6, p7, p8⟩ := ho'
  dsimp only [Claim, PR, lexN] at *
  k_fill
  intro dp un gd cn cs ca ccd cl outer A₀ base h₀ L m s Q E hB hC hF hX hN hT hk hd hu hp hret
  refine wpAny_call ?_
  walk_at "mine enter"
  intro g L1 h1 FG F1 N1 B1 X1 T1 G1
  refine id ?_
  (with_reducible show wpAny _ _ _ _ _ _)
  k_fold
  k_steps
  unfold Stop
  refine for_raw ?_
  k_steps
  (with_reducible rename News _ _ _ _ => N0)
  rename_i iq _ _ _ _
  refine iter_call (by k_asm) (by k_mem) ?_
  refine ⟨One _, 1, .mk, ?_⟩
  refine One.all ?_
  (with_reducible rename News _ _ _ _ => N2)
  (with_reducible rename Fr _ _ _ _ => F2)
  refine char_next ho hr hpos hlen ?_ B1 hC F2 X1 T1 rfl ?_ ?_ N2 ?_ ?_
  · omega
  · ktr_room
  · ktr_units
  · intro c t1 h3 tk3 tl3 tp3 hc F3 N3
    rw [hl] at hc; cases hc
  · intro h3 tk3 tl3 tp3 hc F3 N3
    dsimp only [lexN] at N3
    dsimp only [ForTurn]
    k_steps
    (with_reducible rename Fr _ _ _ _ => F9)
    (with_reducible rename News _ _ _ _ => N9)
    refine Done.all F9 N9 ?_
    rw [lit_empty]
    exact .mk _ _ _
end
end
theorem words_none_Serves : True := by
  w_top off
  k_with_none
  exact True.intro
section
open PySem PySem.W PyProof.Rows PySem.Calls
theorem Claim.mono {w : World} {p : Program} {loose : List Str} {mean : ExcName → Option Value} {mg mb : Str → Option Value} {f : Addr} {d d' : Nat} {news : List (Addr × Obj)} {vs : List Value} {Pre : Heap → Prop} {Ret Ret' : Value → List (Addr × Obj) → Prop}
    (c : Claim w p loose mean mg mb f d news vs Pre Ret) (hd : d ≤ d') (hr : ∀ v n, Ret v n → Ret' v n) : Claim w p loose mean mg mb f d' news vs Pre Ret' := by
  intro dp un gd cn cs a ccd cl outer A₀ base h₀ L m s Q E hB hC hF hX hN hT hk h1 h2 hp hret
  exact c dp un gd cn cs a ccd cl outer A₀ base h₀ L m s Q E hB hC hF hX hN hT hk (by omega) (by omega) hp fun v n r => hret v n (hr v n r)
noncomputable def textL (ws : List (List Nat × Nat)) : List Nat := ws.flatMap fun q => writtenL q.1 q.2
theorem textL_take (ws : List (List Nat × Nat)) (i : Nat) (q : List Nat × Nat) (h : ws[i]? = some q) : textL (ws.take (i + 1)) = textL (ws.take i) ++ writtenL q.1 q.2 := by
  unfold textL
  rw [List.take_add_one, h, Option.toList_some, List.flatMap_append]
  simp
theorem textL_drop (ws : List (List Nat × Nat)) (i : Nat) (q : List Nat × Nat) (h : ws[i]? = some q) : (textL ws).drop (textL (ws.take i)).length = writtenL q.1 q.2 ++ textL (ws.drop (i + 1)) := by
  have hi : i < ws.length := (List.getElem?_eq_some_iff.mp h).1
  have e : ws = ws.take i ++ (q :: ws.drop (i + 1)) := by
    conv => lhs; rw [← List.take_append_drop i ws]
    congr 1
    rw [List.drop_eq_getElem_cons hi, (List.getElem?_eq_some_iff.mp h).2]
  conv => lhs; rw [e]
  have e2 : textL (ws.take i ++ (q :: ws.drop (i + 1))) = textL (ws.take i) ++ textL (q :: ws.drop (i + 1)) := by unfold textL; rw [List.flatMap_append]
  rw [List.take_append_of_le_length (by simp; omega), List.take_take, Nat.min_self, e2, List.drop_left]
  rfl
theorem textL_le (ws : List (List Nat × Nat)) (i : Nat) : (textL (ws.take i)).length ≤ (textL ws).length := by
  conv => rhs; rw [← List.take_append_drop i ws]
  unfold textL
  rw [List.flatMap_append, List.length_append]
  omega
theorem count_ap {q : List Nat} (hq : ∀ c ∈ q, 65 ≤ c ∧ c < 81) : q.count 10 = 0 := List.count_eq_zero.mpr fun h => by have := hq 10 h; omega
theorem count_esc : ∀ {q : List Nat}, (∀ c ∈ q, 65 ≤ c ∧ c < 81) → (escL q).count 10 = 0 := fun {q} hq => List.count_eq_zero.mpr fun h => by
  unfold escL at h
  obtain ⟨c, hc, hm⟩ := List.mem_flatMap.mp h
  have := hq c hc
  simp only [List.mem_cons, List.not_mem_nil, or_false] at hm
  omega
theorem serves_text (w : World) (a : LexA) (ho : a.Ordered) (ws : List (List Nat × Nat)) (hr : ReadCl w (textL ws) a) (hlen : (textL ws).length ≤ 400) (hok : ∀ q ∈ ws, (∀ c ∈ q.1, 65 ≤ c ∧ c < 81) ∧ q.1.length ≤ 4 ∧ q.2 < 12) :
    Serves w a (ws.map (·.1)) (fun i => 1 + (((textL (ws.take i)).count 10 : Nat) : Int)) (fun _ => #[]) (fun i => ((textL (ws.take i)).length : Int)) := by
  intro i word hw tl n tp np p loose mean mg mb
  rw [List.getElem?_map] at hw
  cases hc : ws[i]? with
  | none => rw [hc] at hw; cases hw
  | some q =>
    rw [hc] at hw
    obtain rfl := Option.some.inj hw
    obtain ⟨q1, q2, q3⟩ := hok q (List.mem_of_getElem? hc)
    have hd := textL_drop ws i q hc
    have ht := textL_take ws i q hc
    have hp := textL_le ws i
    by_cases h1 : q.1 = [] ∨ q.2 % 3 = 2
    · have hwr : writtenL q.1 q.2 = 34 :: (q.1 ++ [34]) := by unfold writtenL; rw [if_pos h1]; rfl
      rw [hwr] at hd ht
      refine (token_quoted w (textL ws) a ho hr p loose mean mg mb _ tl n (textL (ws.take i)).length tp np hp hlen q.1 (textL (ws.drop (i + 1))) q1 q2 (by rw [hd]; simp)).mono (Nat.le_refl _) ?_
      rintro v n' ⟨tl', tp', t'⟩
      refine ServRet.of (t := t') tl' n tp' np ?_ rfl
      dsimp only
      rw [ht, List.count_append]
      have e : (34 :: (q.1 ++ [34])).count 10 = 0 := by
        rw [List.count_cons, List.count_append, count_ap q1]; rfl
      rw [e]
      simp only [List.length_append, List.length_cons, List.length_nil, Nat.add_zero]
      have e2 : (textL (ws.take i)).length + q.1.length + 2 = (textL (ws.take i)).length + (q.1.length + (0 + 1) + 1) := by omega
      rw [e2]
    · have h0 : q.1 ≠ [] := fun e => h1 (.inl e)
      have hbl : ∀ y : Nat, y < 12 → (blankOf y = 32 ∨ blankOf y = 9 ∨ blankOf y = 13 ∨ blankOf y = 10) := by decide
      by_cases h2 : q.2 % 3 = 1
      · have hwr : writtenL q.1 q.2 = escL q.1 ++ [blankOf q.2] := by unfold writtenL; rw [if_neg h1, if_pos h2]; rfl
        rw [hwr] at hd ht
        refine (token_escaped w (textL ws) a ho hr p loose mean mg mb _ tl n (textL (ws.take i)).length tp np hp hlen q.1 (textL (ws.drop (i + 1))) (blankOf q.2) (hbl _ q3) h0 q1 q2 (by rw [hd]; simp)).mono (Nat.le_refl _) ?_
        rintro v n' ⟨tl', tp', t'⟩
        refine ServRet.of (t := t') tl' n tp' np ?_ rfl
        dsimp only
        rw [ht, List.count_append, List.count_append, count_esc q1, List.length_append, List.length_append]
        have e3 : (escL q.1).length = 2 * q.1.length := esc_len q.1
        rw [e3]
        have e4 : (([blankOf q.2].count 10 : Nat) : Int) = if blankOf q.2 = 10 then 1 else 0 := by
          by_cases hb : blankOf q.2 = 10 <;> simp [hb]
        have e5 : (1 : Int) + (((textL (ws.take i)).count 10 + (0 + [blankOf q.2].count 10) : Nat) : Int) = 1 + (((textL (ws.take i)).count 10 : Nat) : Int) + if blankOf q.2 = 10 then 1 else 0 := by
          rw [← e4]; push_cast; omega
        rw [e5]
        have e2 : (textL (ws.take i)).length + 2 * q.1.length + 1 = (textL (ws.take i)).length + (2 * q.1.length + [blankOf q.2].length) := by simp; omega
        rw [e2]
      · have hwr : writtenL q.1 q.2 = q.1 ++ [blankOf q.2] := by unfold writtenL; rw [if_neg h1, if_neg h2]
        rw [hwr] at hd ht
        refine (token_plain w (textL ws) a ho hr p loose mean mg mb _ tl n (textL (ws.take i)).length tp np hp hlen q.1 (textL (ws.drop (i + 1))) (blankOf q.2) (hbl _ q3) h0 q1 q2 (by rw [hd]; simp)).mono (Nat.le_refl _) ?_
        rintro v n' ⟨tl', tp', t'⟩
        refine ServRet.of (t := t') tl' n tp' np ?_ rfl
        dsimp only
        rw [ht, List.count_append, List.count_append, count_ap q1, List.length_append, List.length_append]
        have e4 : (([blankOf q.2].count 10 : Nat) : Int) = if blankOf q.2 = 10 then 1 else 0 := by
          by_cases hb : blankOf q.2 = 10 <;> simp [hb]
        have e5 : (1 : Int) + (((textL (ws.take i)).count 10 + (0 + [blankOf q.2].count 10) : Nat) : Int) = 1 + (((textL (ws.take i)).count 10 : Nat) : Int) + if blankOf q.2 = 10 then 1 else 0 := by
          rw [← e4]; push_cast; omega
        rw [e5]
        have e2 : (textL (ws.take i)).length + q.1.length + 1 = (textL (ws.take i)).length + (q.1.length + [blankOf q.2].length) := by simp; omega
        rw [e2]
theorem serves_push (w : World) (a : LexA) (ho : a.Ordered) (words : List (List Nat)) (vs : List Value) (hv : StrsAre vs (words.map strOf)) (h7 : words.length ≤ 7) (line pos : Int) :
    Serves w a words (fun _ => line) (fun i => (vs.drop i).toArray) (fun _ => pos) := by
  intro i word hw tl n tp np p loose mean mg mb
  have hl : vs.length = words.length := by rw [strs_len hv, List.length_map]
  have hi : i < vs.length := by rw [hl]; exact (List.getElem?_eq_some_iff.mp hw).1
  have hx := List.getElem?_eq_getElem hi
  obtain ⟨k, t, hk, e⟩ := strs_at hv hx
  rw [List.getElem?_map, hw] at hk
  obtain rfl := Option.some.inj hk
  have hd : vs.drop i = .str (strOf word) t :: vs.drop (i + 1) := by rw [List.drop_eq_getElem_cons hi, e]
  have hz : (vs.drop (i + 1)).length + 1 ≤ 7 := by rw [List.length_drop]; omega
  dsimp only
  rw [hd]
  refine (pop_spec w a ho p loose mean mg mb line tl _ (vs.drop (i + 1)) n pos tp np (by simp only [List.length_cons]; rw [PySem.sizeLine_eq]; omega) (by simp only [List.size_toArray, List.length_cons]; omega)).mono (by decide) ?_
  rintro v n' ⟨n2⟩
  exact ServRet.of (t := t) tl n2 tp np rfl rfl
end
section
open PySem PySem.W PyProof.Rows PySem.Calls
noncomputable def yI (de : List Int) (i : Nat) : Nat := ((de.getD 8 0 + 5 * (i : Int)).fmod 12).toNat
theorem yI_lt (de : List Int) (i : Nat) : yI de i < 12 := by
  unfold yI
  rw [Int.fmod_eq_emod_of_nonneg _ (by decide)]
  have h1 := Int.emod_nonneg (de.getD 8 0 + 5 * (i : Int)) (b := 12) (by decide)
  have h2 := Int.emod_lt_of_pos (de.getD 8 0 + 5 * (i : Int)) (b := 12) (by decide)
  omega
theorem yI_eq (de : List Int) (i : Nat) : (de.getD (Int.toNat 8) 0 + 5 * ((0 : Int) + (i : Int))).fmod 12 = ((yI de i : Nat) : Int) := by
  unfold yI
  rw [show ((0 : Int) + (i : Int)) = (i : Int) by omega]
  show (de.getD 8 0 + 5 * (i : Int)).fmod 12 = _
  rw [Int.fmod_eq_emod_of_nonneg _ (by decide)]
  have h1 := Int.emod_nonneg (de.getD 8 0 + 5 * (i : Int)) (b := 12) (by decide)
  omega
noncomputable def pieceL (ms : List Nat) (de : List Int) (k : Nat) : List Nat := writtenL (apL (ms.getD k 0)) (yI de k)
noncomputable def wsOf (ms : List Nat) (de : List Int) : List (List Nat × Nat) := (List.range ms.length).map fun k => (apL (ms.getD k 0), yI de k)
theorem wsOf_words (ms : List Nat) (de : List Int) : (wsOf ms de).map (·.1) = ms.map apL := by
  unfold wsOf
  rw [List.map_map]
  apply List.ext_getElem?
  intro i
  rw [List.getElem?_map, List.getElem?_map]
  by_cases h : i < ms.length
  · rw [List.getElem?_range h, List.getElem?_eq_getElem h]
    simp [List.getD_eq_getElem?_getD, List.getElem?_eq_getElem h]
  · rw [List.getElem?_eq_none (by simp; omega), List.getElem?_eq_none (by omega)]; rfl
theorem text_eq (ms : List Nat) (de : List Int) : ((List.range ms.length).map (pieceL ms de)).flatten = textL (wsOf ms de) := by
  unfold textL wsOf
  rw [List.flatMap_map, List.flatMap_def]; rfl
theorem written_len (l : List Nat) (y : Nat) (h : l.length ≤ 4) : (writtenL l y).length ≤ 10 := by
  unfold writtenL
  split
  · simp; omega
  · split
    · rw [List.length_append, esc_len]; simp; omega
    · rw [List.length_append]; simp; omega
theorem piece_len (ms : List Nat) (de : List Int) (hs : ∀ M ∈ ms, M < 65536) (k : Nat) : (pieceL ms de k).length ≤ 10 := by
  refine written_len _ _ (apL_len _ ?_)
  rw [List.getD_eq_getElem?_getD]
  cases hc : ms[k]? with
  | none => decide
  | some M => exact hs M (List.mem_of_getElem? hc)
theorem pieces_sum (ms : List Nat) (de : List Int) (hs : ∀ M ∈ ms, M < 65536) : ∀ n, ((((List.range n).map (pieceL ms de)).map strOf).map (·.length)).sum ≤ 10 * n
  | 0 => Nat.le_refl _
  | n + 1 => by
    have := pieces_sum ms de hs n
    have h2 := piece_len ms de hs n
    rw [List.range_succ, List.map_append, List.map_append, List.map_append, List.sum_append]
    simp only [List.map_cons, List.map_nil, List.sum_cons, List.sum_nil, strOf_length]
    omega
theorem ws_ok (ms : List Nat) (de : List Int) (hs : ∀ M ∈ ms, M < 65536) : ∀ q ∈ wsOf ms de, (∀ c ∈ q.1, 65 ≤ c ∧ c < 81) ∧ q.1.length ≤ 4 ∧ q.2 < 12 := by
  intro q hq
  obtain ⟨k, hk, rfl⟩ := List.mem_map.mp hq
  have hM : ms.getD k 0 < 65536 := by
    rw [List.getD_eq_getElem?_getD, List.getElem?_eq_getElem (List.mem_range.mp hk)]
    exact hs _ (List.getElem_mem _)
  exact ⟨apL_ok _ hM, apL_len _ hM, yI_lt de k⟩
theorem text_len : ∀ (ws : List (List Nat × Nat)), (∀ q ∈ ws, q.1.length ≤ 4) → (textL ws).length ≤ 10 * ws.length
  | [], _ => Nat.le_refl _
  | q :: r, h => by
    have := text_len r (fun x hx => h x (List.mem_cons_of_mem _ hx))
    have h2 := written_len q.1 q.2 (h q List.mem_cons_self)
    unfold textL at this ⊢
    rw [List.flatMap_cons, List.length_append, List.length_cons]
    omega
theorem blank_le (y : Nat) : blankOf y < 128 := by
  unfold blankOf
  rw [List.getD_eq_getElem?_getD]
  cases hc : ([32, 9, 13, 10] : List Nat)[y / 3]? with
  | none => decide
  | some M =>
    have := List.mem_of_getElem? hc
    simp only [List.mem_cons, List.not_mem_nil, or_false] at this
    show M < 128
    omega
theorem text_ascii (ws : List (List Nat × Nat)) (h : ∀ q ∈ ws, ∀ c ∈ q.1, 65 ≤ c ∧ c < 81) : ∀ c ∈ textL ws, c < 128 := by
  intro c hc
  obtain ⟨q, hq, hc⟩ := List.mem_flatMap.mp hc
  have ha := h q hq
  unfold writtenL at hc
  split at hc
  · rcases List.mem_append.mp hc with hc | hc
    · rcases List.mem_cons.mp hc with rfl | hc
      · decide
      · have := ha c hc; omega
    · rw [List.mem_singleton.mp hc]; decide
  · split at hc
    · rcases List.mem_append.mp hc with hc | hc
      · obtain ⟨d, hd, hc⟩ := List.mem_flatMap.mp hc
        have := ha d hd
        simp only [List.mem_cons, List.not_mem_nil, or_false] at hc
        omega
      · rw [List.mem_singleton.mp hc]; exact blank_le _
    · rcases List.mem_append.mp hc with hc | hc
      · have := ha c hc; omega
      · rw [List.mem_singleton.mp hc]; exact blank_le _
theorem rg_size0 : ∀ n : Nat, n ≤ 7 → Builtin.Range.rangeSize 0 (n : Int) 1 = (n : Int) := by decide
theorem rg_small0 : ∀ n : Nat, n ≤ 7 → Builtin.Range.small 0 (n : Int) 1 = true := by decide
theorem get_cast (ms : List Nat) (i : Nat) (h : i < ms.length) : (List.map (fun (x : Nat) => (x : Int)) ms).getD ((0 : Int) + (i : Int)).toNat 0 = ((ms.getD i 0 : Nat) : Int) := by
  rw [show ((0 : Int) + (i : Int)).toNat = i by omega]
  simp [List.getD_eq_getElem?_getD, List.getElem?_eq_getElem h]
theorem getD_mem (ms : List Nat) (i : Nat) (h : i < ms.length) : ms.getD i 0 ∈ ms := by
  rw [List.getD_eq_getElem?_getD, List.getElem?_eq_getElem h]
  exact List.getElem_mem h
theorem cnt_count (c : Nat) : ∀ l : List Nat, PyProof.Rows.cnt c l = ((l.count c : Nat) : Int)
  | [] => rfl
  | n :: r => by
    rw [cnt_cons, cnt_count c r, List.count_cons]
    by_cases h : n = c
    · rw [if_pos h, if_pos (by simpa using h)]; push_cast; omega
    · rw [if_neg h, if_neg (by simpa using h)]; push_cast; omega
theorem count_nl (l : List Nat) : Txt.count (strOf l) (Str.ofString "\n") = ((l.count 10 : Nat) : Int) := by
  rw [show Str.ofString "\n" = (⟨#[10]⟩ : Str) by decide +kernel, count_is]
  exact cnt_count 10 l
/-- none of the lexer's addresses -/
theorem off_of {a : LexA} {w : World} {line : Int} {tl : Tok} {items : Array Value} {n : Nat} {pos : Int} {tp : Tok} {np : Nat} {b : Addr} (h : ∀ p ∈ lexN w a line tl items n pos tp np, @Ne Nat b p.1) : offLex a b := by
  simp only [lexN, List.forall_mem_cons] at h
  obtain ⟨q0, q1, q2, q3, q4, q5, q6, q7, q8, q9, _⟩ := h
  exact ⟨q0, q1, q2, q3, q4, q5, q6, q7, q8, q9⟩
structure LawAt (w : World) (a : LexA) (ms os : List Nat) (txt : List Nat) (j : Nat) (nums : List Nat) (line : Nat → Int) (items : Nat → Array Value) (pos : Nat → Int) : Prop where
  serves : Serves w a (nums.map apL) line items pos
  emp : items nums.length = #[]
  line : line nums.length = 1 + ((txt.count 10 : Nat) : Int)
  pos : pos nums.length = ((txt.length : Nat) : Int)
  nums : nums = shiftAll (os.take j) ms
theorem LawAt.start (w : World) (a : LexA) (ho : a.Ordered) (ms os : List Nat) (de : List Int) (hs : ∀ M ∈ ms, M < 65536) (hr : ReadCl w (textL (wsOf ms de)) a) (hlen : (textL (wsOf ms de)).length ≤ 400) :
    LawAt w a ms os (textL (wsOf ms de)) 0 ms (fun i => 1 + (((textL ((wsOf ms de).take i)).count 10 : Nat) : Int)) (fun _ => #[]) (fun i => ((textL ((wsOf ms de).take i)).length : Int)) := by
  have hl : (wsOf ms de).length = ms.length := by unfold wsOf; rw [List.length_map, List.length_range]
  have ht : (wsOf ms de).take ms.length = wsOf ms de := List.take_of_length_le (by omega)
  refine ⟨?_, rfl, by rw [ht], by rw [ht], rfl⟩
  have := serves_text w a ho (wsOf ms de) hr hlen (ws_ok ms de hs)
  rw [wsOf_words] at this
  exact this
theorem LawAt.next {w : World} {a : LexA} (ho : a.Ordered) {ms os txt : List Nat} {j : Nat} {nums : List Nat} {line : Nat → Int} {items : Nat → Array Value} {pos : Nat → Int} (k : LawAt w a ms os txt j nums line items pos) {p : Nat} (hp : os[j]? = some p) (hl : nums.length ≤ 7) {vs : List Value} (hv : StrsAre vs ((shiftL p nums).map fun F => strOf (apL F))) :
    LawAt w a ms os txt (j + 1) (shiftL p nums) (fun _ => 1 + ((txt.count 10 : Nat) : Int)) (fun i => (vs.drop i).toArray) (fun _ => ((txt.length : Nat) : Int)) where
  serves := serves_push w a ho _ vs (by rw [List.map_map]; exact hv) (by rw [List.length_map, shift_length]; exact hl) _ _
  emp := by
    have : vs.length = (shiftL p nums).length := by rw [strs_len hv, List.length_map]
    rw [List.drop_of_length_le (by omega)]
  line := rfl
  pos := rfl
  nums := by
    rw [List.take_add_one, hp, Option.toList_some]
    unfold shiftAll
    rw [List.foldl_append, k.nums]; rfl
end
section
theorem name_top {h₀ h : Heap} {L D : Addr} {ws : List Value} {n : Nat} {rest : List (Addr × Obj)} {P : Prop} (_N : News h₀ L h ((D, W.listOf ws.toArray n) :: rest)) (k : ∀ D' ws', D' = D → ws' = ws → P) : P := k _ _ rfl rfl
theorem ret_ne {h₀ h : Heap} {L : Addr} {all news' : List (Addr × Obj)} {adr : List Addr} (N : News h₀ L h all) (O : ∀ p ∈ news', p.1 ∈ adr ∨ h.get? p.1 = none) {a b : Addr} {oa ob : Obj} (ha : (a, oa) ∈ news') (hb : (b, ob) ∈ all) (hn : b ∉ adr) : @Ne Nat a b := fun e => by
  rcases O _ ha with k | k
  · exact hn (e ▸ k)
  · have := (N _ hb).1
    rw [show h.get? b = none from e ▸ k] at this; cases this
theorem bit_test0 (F q : Nat) : ((F : Int).fdiv (2 ^ ((q : Nat) : Int).toNat)).fmod 2 = 0 ↔ F.testBit q = false := by
  have h := bit_test F q
  have h2 : ((F : Int).fdiv (2 ^ ((q : Nat) : Int).toNat)).fmod 2 = 0 ∨ ((F : Int).fdiv (2 ^ ((q : Nat) : Int).toNat)).fmod 2 = 1 := by
    rw [Int.fmod_eq_emod_of_nonneg _ (by decide)]; omega
  constructor
  · intro e
    cases hb : F.testBit q with
    | false => rfl
    | true => rw [h.mpr hb] at e; cases e
  · intro e
    rcases h2 with a | a
    · exact a
    · rw [h.mp a] at e; cases e
theorem ints_any (W : List Nat) (x : Nat) : ((W.map fun (x : Nat) => (x : Int)).any (· == (x : Int))) = decide (x ∈ W) := by
  by_cases hm : x ∈ W
  · rw [decide_eq_true hm]
    exact List.any_eq_true.mpr ⟨(x : Int), List.mem_map_of_mem hm, beq_self_eq_true _⟩
  · rw [decide_eq_false hm]
    apply List.any_eq_false.mpr
    intro y hy he
    obtain ⟨z, hz, rfl⟩ := List.mem_map.mp hy
    have : z = x := by have := eq_of_beq he; omega
    exact hm (this ▸ hz)
theorem plus_bit (x p : Nat) : (x : Int) + 2 ^ ((p : Nat) : Int).toNat = ((x + 2 ^ p : Nat) : Int) := by
  rw [Int.toNat_natCast]; push_cast; rfl
theorem filter_split (p : Nat → Bool) : ∀ l : List Nat, (l.filter p).length + (l.filter fun x => !p x).length = l.length
  | [] => rfl
  | a :: r => by
    have := filter_split p r
    cases h : p a <;> simp only [List.filter_cons, h, Bool.false_eq_true, if_false, if_true, Bool.not_false, Bool.not_true, List.length_cons] <;> omega
theorem won_len : ∀ (r sets : List Nat), (wonR r sets).length ≤ sets.length
  | [], _ => Nat.le_refl _
  | p :: r, sets => by
    unfold wonR
    split
    · exact Nat.le_refl _
    · have h1 := won_len r (sets.filter fun x => !x.testBit p)
      have h2 := won_len r ((sets.filter fun x => x.testBit p).map (· - 2 ^ p))
      dsimp only
      generalize wonR r (sets.filter fun x => !x.testBit p) = off at h1 ⊢
      generalize wonR r ((sets.filter fun x => x.testBit p).map (· - 2 ^ p)) = on at h2 ⊢
      have h3 : (on.filter fun x => decide (x ∉ off)).length + (on.filter fun x => decide (x ∈ off)).length = on.length := by
        have := filter_split (fun x => decide (x ∈ off)) on
        simp only [decide_not]
        omega
      have h4 : (sets.filter fun x => !x.testBit p).length + (sets.filter fun x => x.testBit p).length = sets.length := by
        have := filter_split (fun x => x.testBit p) sets
        omega
      simp only [List.length_append, List.length_map] at h2 ⊢
      omega
section
set_option inductive.autoPromoteIndices false in
set_option autoImplicit false in
inductive WonRet (r ms : List Nat) (sa oa : Addr) (sv ov : List Value) (ns no : Nat)  : Value → List (Addr × Obj) → Prop
  | mk (D : Addr) (vs : List Value) (c : Nat) (c0 : IntsAre vs ((wonR r ms).map fun (x : Nat) => (x : Int))) : WonRet r ms sa oa sv ov ns no (.ref D) ([(D, W.listOf vs.toArray c), (sa, W.listOf sv.toArray ns), (oa, W.listOf ov.toArray no)])
set_option autoImplicit false in
theorem WonRet.all {r : List Nat} {ms : List Nat} {sa : Addr} {oa : Addr} {sv : List Value} {ov : List Value} {ns : Nat} {no : Nat} {P : Value → List (Addr × Obj) → Prop} (h : ∀ (D : Addr) (vs : List Value) (c : Nat) (c0 : IntsAre vs ((wonR r ms).map fun (x : Nat) => (x : Int))), P (.ref D) ([(D, W.listOf vs.toArray c), (sa, W.listOf sv.toArray ns), (oa, W.listOf ov.toArray no)])) : ∀ (x0 : Value) (x1 : List (Addr × Obj)), WonRet r ms sa oa sv ov ns no x0 x1 → P x0 x1 :=
  fun _ _ t => WonRet.rec (motive := fun x0 x1 _ => P x0 x1) h t
theorem words_won_spec : True := by
  w_top off
  k_with_none
  k_with "mine ktr_room" => ((try simp only [depth_under_make, depth_under_kw, depth_in1, depth_deeper, depth_caller]); (try dsimp only [ktrTop]); first | decide | omega)
  k_with "mine ktr_units" => ((try simp only [units_in1, units_deeper, Around.mark_units, units_caller]); (try dsimp only [ktrTop]); first | (rw [cLine_is]; decide) | omega)
  k_with "mine call by" => ((case k1 => k_asm); (case k2 => kn_code); (case k3 => k_asm); (case k4 => k_asm); (case k5 => (refine' News.subs ?k51 ?k52; (case k51 => k_asm); (case k52 => ((repeat (refine List.forall_mem_cons.mpr (And.intro (by k_mem) ?_))); exact fun _ h => nomatch h)))); (case k6 => k_asm); (case k7 => first | exact rfl | assumption); (case k8 => ktr_room); (case k9 => ktr_units); (case kp => first | exact trivial | assumption))
  k_with "binaryOp Add str str" => (refine PyProof.Rows.add_str (hsz := ?hszq) ?_; (case hszq => assumption); intro _ _)
  k_with "call builtin:hex" => (refine P.hex_of_int ?_ (hsz := ?hszq); (case hszq => assumption))
  k_with "call builtin:list.append" => (k_here; (with_reducible show wpAny _ _ (call (Value.builtin _) [Value.ref _, _]) _ _ _); k_dflt (refine' append_K ?k1 ?k2 ?k3 ?_ ?z; (case k1 => k_asm); (case k2 => k_asm); (case k3 => k_upd); (case z => assumption); k_whole); intro h9w F9w N9w; (try k_sweep))
  k_with "call builtin:dict.get" => (k_here; k_dflt (refine' flag_get ?k1 ?k2 ?k3 ?k4 ?_; (case k1 => k_asm); (case k2 => exact Fr.keep (by with_reducible assumption)); (case k3 => assumption); (case k4 => assumption)); intro t9w tk9w)
  k_with "exec For Name Call cons nil" => (refine for_raw ?_)
  k_with "exec For Name Call cons cons" => (refine for_raw ?_)
  k_with "exec For Name Name cons nil" => (refine for_raw ?_)
  k_with "exec For Name Subscript cons nil" => (refine for_raw ?_)
  k_with "exec While Name cons nil" => (refine Stop.out ?_)
  k_with "subscriptTail" => (k_here; (with_reducible show wpAny _ _ (subscriptTail _ (Expr.Slice _ _ none _) (Value.bytes _ _) (Value.ref _)) _ _ _); (with_reducible rename Fr _ _ _ _ => F9w); (with_reducible rename News _ _ _ _ => N9w); (refine KBy.slice_N (s := ⟨_, _, _, _, _⟩) F9w N9w (by constructor) (by constructor) (by assumption) (by assumption) ?_); intro _ _ _ _ _)
  k_with "binaryOp Add bytes bytes" => (k_here; (with_reducible show wpAny _ _ (binaryOp Operator.Add (Value.bytes _ _) (Value.bytes _ _)) _ _ _); (refine KBy.add_bytes (by assumption) ?_); intro _ _)
  k_with "mine enter" => (k_dflt (refine' enter_plain ?k1 ?k2 ?k3 ?k4 ?k5 ?kA ?kF ?kK ?k6 ?k7 ?k8 ?k9 ?kB ?hr ?_ ?c2 ?c3 ?c4 ?c5; (case kA => exact rfl); (case kF => exact rfl); (case kK => assumption); (case k1 => k_asm); (case k2 => k_asm); (case k3 => k_asm); (case k4 => k_asm); (case k5 => k_asm); (case k6 => k_is); (case k7 => k_is); (case k8 => ktr_room); (case k9 => exact BindsTo.of_eq rfl); (case c5 => decide); (case kB => exact locs rfl); (case hr => assumption); (case c2 => exact rfl); (case c3 => exact rfl); (case c4 => exact rfl); k_whole))
  k_with "mine cells" => (k_dflt (refine' enter_cells ?k1 ?k2 ?k3 ?k4 ?k5 ?kA ?kF ?kK ?k6 ?k7 ?k8 ?k9 ?kB ?kD ?hr ?_ ?c2 ?c3 ?c4; (case kA => exact rfl); (case kF => exact rfl); (case kK => assumption); (case k1 => k_asm); (case k2 => k_asm); (case k3 => k_asm); (case k4 => k_asm); (case k5 => k_asm); (case k6 => k_is); (case k7 => k_is); (case k8 => ktr_room); (case k9 => exact BindsTo.of_eq rfl); (case kB => exact rfl); (case kD => decide +kernel); (case hr => assumption); (case c2 => exact rfl); (case c3 => exact rfl); (case c4 => exact rfl); k_whole))
  k_with "mine made" => (k_dflt (refine' enter_made ?k1 ?k2 ?k3 ?k4 ?k5 ?kA ?kF ?kK ?k6 ?kd ?k7 ?k8 ?k9 ?kB ?hr ?_ ?c2 ?c3 ?c4 ?c5; (case kA => exact rfl); (case kF => exact rfl); (case kK => assumption); (case k1 => k_asm); (case k2 => k_asm); (case k3 => k_asm); (case k4 => k_asm); (case k5 => k_asm); (case k6 => k_mem); (case kd => exact rfl); (case k7 => exact codeRec_news (by k_asm) (by k_mem) (by assumption) (by assumption)); (case k8 => ktr_room); (case k9 => exact BindsTo.of_eq rfl); (case c5 => decide); (case kB => exact locs rfl); (case hr => assumption); (case c2 => exact rfl); (case c3 => exact rfl); (case c4 => exact rfl); k_whole))
  k_with "subscriptTail" => (k_here; (with_reducible show wpAny _ _ (subscriptTail _ (Expr.Slice _ _ none _) (Value.str _ _) (Value.ref _)) _ _ _); (with_reducible rename Fr _ _ _ _ => F9w); (with_reducible rename News _ _ _ _ => N9w); (first
  | ((with_reducible show wpAny _ _ (subscriptTail _ (Expr.Slice (some _) (some _) none _) _ _) _ _ _); (refine slice_strN_ss (hsz := ?hsz) (s := ⟨_, _, _, _, _⟩) F9w N9w ?_); (case hsz => assumption))
  | ((with_reducible show wpAny _ _ (subscriptTail _ (Expr.Slice none (some _) none _) _ _) _ _ _); (refine slice_strN_ns (hsz := ?hsz) (s := ⟨_, _, _, _, _⟩) F9w N9w ?_); (case hsz => assumption))); intro _ _ _ _ _)
  k_with "call builtin:len" => (k_here; (with_reducible show wpAny _ _ (call (Value.builtin "len") [Value.str _ _]) _ _ _); refine PyProof.Rows.len_str ?hfit ?_; (case hfit => first | exact len_fitS (by assumption) | exact len_fits (by assumption)))
  k_with "exec For Name Name cons cons" => (refine for_raw ?_)
  k_with "call builtin:iter" => (k_here; (with_reducible show wpAny _ _ (call (Value.builtin _) [Value.ref _, Value.str _ _]) _ _ _); k_dflt (refine' call_iter2 ?k1 ?k2 ?k3 ?_; (case k1 => k_asm); (case k2 => k_asm); (case k3 => k_mem); k_whole); intro it9w h9w F9w N9w l9w G9w; (try k_lt l9w))
  k_with "inplaceOp Add str str" => (refine PyProof.Rows.iadd_str (hsz := ?hszi) ?_; (case hszi => assumption); intro _ _)
  k_with "call type:enumerate" => (k_here; k_dflt (refine' call_enum ?k1 ?k2 ?k3 ?_; (case k1 => k_asm); (case k2 => k_asm); (case k3 => k_mem); k_whole))
  k_with "call type:zip" => (k_here; k_dflt (refine' call_zip ?k1 ?k2 ?k3 ?k4 ?_; (case k1 => k_asm); (case k2 => k_asm); (case k3 => k_mem); (case k4 => k_mem); k_whole))
  k_with "exec For Tuple Call cons nil" => (refine for_pair ?_)
  k_with "exec For Tuple Call cons cons" => (refine for_pair ?_)
  k_with "setItem ref int" => (k_here; k_dflt (refine' set_list ?F ?N ?k ?U ?_; (case F => k_asm); (case N => k_asm); (case U => k_upd); (case k => assumption)); intro h9w F9w N9w; (try dsimp only [List.nil_append, List.cons_append] at N9w))
  k_with "call builtin:list.insert" => (k_here; (with_reducible show wpAny _ _ (call (Value.builtin _) [Value.ref _, Value.int _ _, _]) _ _ _); k_dflt (refine' ins_list ?F ?N ?k ?U ?_; (case F => k_asm); (case N => k_asm); (case U => k_upd); (case k => assumption)); intro h9w F9w N9w; (try dsimp only [List.nil_append, List.cons_append] at N9w))
  k_with "binaryOp Pow int int" => (refine Stop.out ?_)
  k_with "compareOp Eq ref ref" => (refine Stop.out ?_)
  k_with "compareOp In int ref" => (refine Stop.out ?_)
  k_with "compareOp NotIn int ref" => (refine Stop.out ?_)
  k_with "binaryOp Add ref ref" => (refine Stop.out ?_)
  k_with "eval ListComp" => (refine Stop.out ?_)
  k_with "CompSrcT" => (refine Stop.out ?_)
  k_with "CompSrc" => (refine Stop.out ?_)
  k_with "call ref" => (refine Stop.out ?_)
  k_with "lt0" => (first | with_reducible assumption | exact And.left (by with_reducible assumption) | exact And.left (And.right (by with_reducible assumption)) | exact And.left (And.right (And.right (by with_reducible assumption))) | exact And.left (And.right (And.right (And.right (by with_reducible assumption)))) | exact And.left (And.right (And.right (And.right (And.right (by with_reducible assumption))))) | exact And.left (And.right (And.right (And.right (And.right (And.right (by with_reducible assumption)))))) | exact And.left (And.right (And.right (And.right (And.right (And.right (And.right (by with_reducible assumption))))))) | exact And.left (And.right (And.right (And.right (And.right (And.right (And.right (And.right (by with_reducible assumption)))))))) | exact And.left (And.right (And.right (And.right (And.right (And.right (And.right (And.right (And.right (by with_reducible assumption))))))))) | exact And.left (And.right (And.right (And.right (And.right (And.right (And.right (And.right (And.right (And.right (by with_reducible assumption)))))))))) | exact And.left (And.right (And.right (And.right (And.right (And.right (And.right (And.right (And.right (And.right (And.right (by with_reducible assumption))))))))))) | exact And.left (And.right (And.right (And.right (And.right (And.right (And.right (And.right (And.right (And.right (And.right (And.right (by with_reducible assumption)))))))))))) | exact And.right (by with_reducible assumption) | exact And.right (And.right (by with_reducible assumption)) | exact And.right (And.right (And.right (by with_reducible assumption))) | exact And.right (And.right (And.right (And.right (by with_reducible assumption)))) | exact And.right (And.right (And.right (And.right (And.right (by with_reducible assumption))))) | exact And.right (And.right (And.right (And.right (And.right (And.right (by with_reducible assumption)))))) | exact And.right (And.right (And.right (And.right (And.right (And.right (And.right (by with_reducible assumption))))))) | exact And.right (And.right (And.right (And.right (And.right (And.right (And.right (And.right (by with_reducible assumption)))))))) | exact And.right (And.right (And.right (And.right (And.right (And.right (And.right (And.right (And.right (by with_reducible assumption))))))))) | exact And.right (And.right (And.right (And.right (And.right (And.right (And.right (And.right (And.right (And.right (by with_reducible assumption)))))))))) | exact And.right (And.right (And.right (And.right (And.right (And.right (And.right (And.right (And.right (And.right (And.right (by with_reducible assumption))))))))))) | exact nat_lt1 _)
  k_with "ch" => (first | with_reducible assumption | (refine Nat.lt_trans (by with_reducible assumption) ?_; k_extra "ch"))
  k_with "lt" => (first | k_extra "lt0" | exact nat_ltS (by k_extra "lt0") | exact nat_ltS (nat_ltS (by k_extra "lt0")) | exact nat_ltS (nat_ltS (nat_ltS (by k_extra "lt0"))) | exact nat_ltS (nat_ltS (nat_ltS (nat_ltS (by k_extra "lt0")))) | exact nat_ltS (nat_ltS (nat_ltS (nat_ltS (nat_ltS (by k_extra "lt0"))))) | exact nat_ltS (nat_ltS (nat_ltS (nat_ltS (nat_ltS (nat_ltS (by k_extra "lt0")))))) | exact nat_ltS (nat_ltS (nat_ltS (nat_ltS (nat_ltS (nat_ltS (nat_ltS (by k_extra "lt0"))))))) | exact nat_ltS (nat_ltS (nat_ltS (nat_ltS (nat_ltS (nat_ltS (nat_ltS (nat_ltS (by k_extra "lt0")))))))) | k_extra "ch")
  k_with "omega" => (first
    | with_reducible assumption
    | exact Nat.ne_of_lt (by with_reducible assumption) | exact Nat.ne_of_gt (by with_reducible assumption)
    | exact nat_room2 (by with_reducible assumption) (by rfl) | exact nat_room1 (by with_reducible assumption) (by rfl) | exact nat_room3 (by with_reducible assumption) (by rfl) | exact nat_room0 (by with_reducible assumption)
    | exact nat_meas (by with_reducible assumption) | exact nat_meas (Nat.lt_succ_of_lt (by with_reducible assumption))
    | exact c_low (by with_reducible assumption) (by rfl) | exact c_high (by with_reducible assumption) (by rfl) | exact c_lt (by with_reducible assumption) (by rfl)
    | exact Nat.succ_le_of_lt (by with_reducible assumption) | exact Nat.lt_succ_of_le (by with_reducible assumption)
    | exact And.intro (by k_extra "lt") (by k_extra "lt")
    | exact Int.natCast_nonneg _ | exact Int.ofNat_lt.mpr (by with_reducible assumption) | exact Int.ofNat_le.mpr (by with_reducible assumption) | exact int_lt (by with_reducible assumption) (by decide) | exact int_le (by with_reducible assumption) (by decide) | exact Int.lt_of_lt_of_le (by with_reducible assumption) (by decide) | exact Int.le_trans (Int.le_of_lt (by with_reducible assumption)) (by decide)
    | exact Nat.ne_of_lt (by k_extra "lt") | exact Nat.ne_of_gt (by k_extra "lt") | k_extra "lt"
    | exact Nat.le_trans (by with_reducible assumption) (by decide) | exact nat_eqle (by with_reducible assumption) (by decide) | exact Nat.le_trans (Nat.succ_le_succ (by with_reducible assumption)) (by decide) | exact Nat.le_of_lt (by with_reducible assumption) | exact Nat.le_of_eq (by with_reducible assumption)
    | decide)
  exact True.intro
set_option maxRecDepth 100000 in
set_option maxHeartbeats 8000000 in
theorem won_spec (w : World) (p : Program) (loose : List Str) (mean : ExcName → Option Value) (mg mb : Str → Option Value) : ∀ (r : List Nat) (sa oa : Addr) (sv ov : List Value) (ms : List Nat) (ns no : Nat), IntsAre sv (ms.map fun (x : Nat) => (x : Int)) → IntsAre ov (r.reverse.map fun (x : Nat) => (x : Int)) → ms.length ≤ 7 → r.length ≤ 4 → (∀ q ∈ r, q < 16) →
   Claim w p loose mean mg mb 126 (3 * r.length + 12) [(sa, W.listOf sv.toArray ns), (oa, W.listOf ov.toArray no)] [.ref sa, .ref oa] (fun _ => True)
     (WonRet r ms sa oa sv ov ns no) := by
  intro r
  induction r with
  | nil =>
    intro sa oa sv ov ms ns no hsv hov h7 h4 h16
    dsimp only [Claim, PR]
    k_fill
    intro dp un gd cn cs ca ccd cl outer A₀ base h₀ L m s Q E hB hC hF hX hN hT hk hd hu hp hret
    simp only [List.length_cons, List.length_nil] at hd hu
    refine wpAny_call ?_
    walk_at "mine cells"
    intro g L' h1 tk cells FG F1 N1 Y1 B1 X1 T1 G1 l1
    try k_lt l1
    obtain ⟨oN, oX, hE', dN, dX⟩ := CellsAre.two Y1
    subst hE'
    clear Y1
    simp only [List.cons_append, List.nil_append] at N1
    refine id ?_
    (with_reducible show wpAny _ _ _ _ _ _)
    k_fold
    k_steps
    unfold Stop
    exact by
      (with_reducible rename News _ _ _ _ => NB)
      refine ke_eq_ints (News.isList NB (by k_mem)) (News.isList NB (by k_mem)) hsv .nil (by ktr_units) ?_
      by_cases h0 : ms = []
      · rw [decide_eq_true (by rw [h0]; rfl)]
        k_steps
        refine Done.intro (by assumption) (by assumption) [(sa, W.listOf sv.toArray ns), (sa, W.listOf sv.toArray ns), (oa, W.listOf ov.toArray no)] ?_ ⟨sa, sv, ns, by rw [h0] at hsv ⊢; exact hsv⟩
        intro q hq
        simp only [List.mem_cons, List.not_mem_nil, or_false] at hq
        rcases hq with rfl | rfl | rfl <;> k_mem
      · rw [decide_eq_false (by simpa using h0)]
        k_steps
        unfold Stop
        exact by
          (with_reducible rename News _ _ _ _ => NC)
          refine ke_eq_ints (News.isList NC (by k_mem)) (News.isList NC (by k_mem)) hov .nil (by ktr_units) ?_
          rw [decide_eq_true (by rfl)]
          k_steps
          refine Done.intro (by assumption) (by assumption) [(sa, W.listOf sv.toArray ns), (sa, W.listOf sv.toArray ns), (oa, W.listOf ov.toArray no)] ?_ ⟨sa, sv, ns, hsv⟩
          intro q hq
          simp only [List.mem_cons, List.not_mem_nil, or_false] at hq
          rcases hq with rfl | rfl | rfl <;> k_mem
  | cons q r ih =>
    intro sa oa sv ov ms ns no hsv hov h7 h4 h16
    dsimp only [Claim, PR]
    k_fill
    intro dp un gd cn cs ca ccd cl outer A₀ base h₀ L m s Q E hB hC hF hX hN hT hk hd hu hp hret
    simp only [List.length_cons, List.length_nil] at hd hu
    refine wpAny_call ?_
    walk_at "mine cells"
    intro g L' h1 tk cells FG F1 N1 Y1 B1 X1 T1 G1 l1
    try k_lt l1
    obtain ⟨oN, oX, hE', dN, dX⟩ := CellsAre.two Y1
    subst hE'
    clear Y1
    simp only [List.cons_append, List.nil_append] at N1
    refine id ?_
    (with_reducible show wpAny _ _ _ _ _ _)
    k_fold
    k_steps
    unfold Stop
    exact by
      (with_reducible rename News _ _ _ _ => NB)
      refine ke_eq_ints (News.isList NB (by k_mem)) (News.isList NB (by k_mem)) hsv .nil (by ktr_units) ?_
      by_cases h0 : ms = []
      · rw [decide_eq_true (by rw [h0]; rfl)]
        k_steps
        refine Done.intro (by assumption) (by assumption) [(sa, W.listOf sv.toArray ns), (sa, W.listOf sv.toArray ns), (oa, W.listOf ov.toArray no)] ?_ ⟨sa, sv, ns, by rw [h0] at hsv ⊢; exact hsv⟩
        intro q hq
        simp only [List.mem_cons, List.not_mem_nil, or_false] at hq
        rcases hq with rfl | rfl | rfl <;> k_mem
      · rw [decide_eq_false (by simpa using h0)]
        have hrl : r.length + 1 ≤ 4 := h4
        have hovl : ov.length = r.length + 1 := by rw [ints_len hov]; simp
        k_steps
        unfold Stop
        exact by
          (with_reducible rename News _ _ _ _ => NC)
          refine ke_eq_ints (News.isList NC (by k_mem)) (News.isList NC (by k_mem)) hov .nil (by ktr_units) ?_
          rw [decide_eq_false (by simp)]
          have hlast : (List.map (fun (x : Nat) => (x : Int)) (q :: r).reverse).getD (-1 + ((List.map (fun (x : Nat) => (x : Int)) (q :: r).reverse).length : Int)).toNat 0 = (q : Int) := by
            have e1 : (-1 + ((List.map (fun (x : Nat) => (x : Int)) (q :: r).reverse).length : Int)).toNat = r.length := by
              simp only [List.length_map, List.length_reverse, List.length_cons]; omega
            rw [e1, List.reverse_cons, List.map_append]
            simp [List.getD_eq_getElem?_getD]
          have hq16 : q < 16 := h16 q List.mem_cons_self
          k_steps
          unfold Stop
          exact by
            rw [hlast]
            refine pow_int_small (by omega) (by omega) (by decide) ?_
            have hb0 : (2 : Int) ^ ((q : Nat) : Int).toNat ≠ 0 := by rw [Int.toNat_natCast]; exact Int.ne_of_gt (Int.pow_pos (by decide))
            k_steps
            unfold Stop
            exact by
              refine LCt.ListComp_T (F₀ := by k_asm) (by with_unfolding_all rfl) (by decide) (by rfl) (by decide) (by rfl) ?_
              k_steps
              unfold Stop
              exact by
                (with_reducible rename News _ _ _ _ => NB)
                refine LCt.CompSrcT.ledger (by rfl) (by k_asm) NB (ax := sa) (its := sv.toArray) (k := ns) (by k_mem) (by rw [List.size_toArray, ints_len hsv, List.length_map, PySem.sizeLine_eq]; omega) ?_
                intro g8
                refine comp_restT (SameI _ fun i => (((ms.take i).filter fun x => !x.testBit q).map fun (x : Nat) => (x : Int))) (.mk .nil) ?_ ?_
                · intro i2 v I oI C oC D2 m₂ hh2 tk2 E' hi2
                  intro ys2
                  refine SameI.all ?_
                  rintro hy2 hv2 hoC hx2 F9 N9 off9 ne9
                  obtain ⟨qk, tq, hqk, rfl⟩ := ints_at hsv (by simpa using hv2)
                  obtain ⟨x, hx, rfl⟩ : ∃ x : Nat, ms[i2]? = some x ∧ qk = (x : Int) := by
                    simp only [List.getElem?_map] at hqk
                    cases hc : ms[i2]? with
                    | none => rw [hc] at hqk; cases hqk
                    | some M => rw [hc] at hqk; exact ⟨M, rfl, (Option.some.inj hqk).symm⟩
                  k_steps
                  · refine comp_end (by assumption) (by assumption) off9 (.inr ⟨W.listOf sv.toArray ns, by k_mem, rfl, ns, rfl⟩) (.mk ?_)
                    rw [List.take_add_one, hx, Option.toList_some, List.filter_append, List.map_append]
                    have hb : x.testBit q = false := (bit_test0 x q).mp (by assumption)
                    simp only [List.filter_cons, hb, Bool.not_false, if_true, List.filter_nil, List.map_cons, List.map_nil]
                    exact hy2.append (.cons _ _ .nil)
                  · refine comp_end (by assumption) (by assumption) off9 (.inr ⟨W.listOf sv.toArray ns, by k_mem, rfl, ns, rfl⟩) (.mk ?_)
                    rw [List.take_add_one, hx, Option.toList_some, List.filter_append, List.map_append]
                    have hb : x.testBit q = true := by
                      cases hc : x.testBit q with
                      | true => rfl
                      | false => exact absurd ((bit_test0 x q).mpr hc) (by assumption)
                    simp only [List.filter_cons, hb, Bool.not_true, Bool.false_eq_true, if_false, List.filter_nil, List.map_nil, List.append_nil]
                    exact hy2
                · intro ys2
                  refine SameI.all ?_
                  intro hy2
                  intro D2 hh9 tk9 F9 N9 off9
                  have hpsz : sv.toArray.size = ms.length := by rw [List.size_toArray, ints_len hsv, List.length_map]
                  rw [hpsz, List.take_length] at hy2
                  have n1 := off1_mem _ off9
                  k_steps
                  unfold Stop
                  exact by
                    (with_reducible rename IntsAre _ (List.take _ _) => hI3)
                    have etk : List.take ((List.map (fun (x : Nat) => (x : Int)) (q :: r).reverse).length - 1) (List.map (fun (x : Nat) => (x : Int)) (q :: r).reverse) = r.reverse.map fun (x : Nat) => (x : Int) := by
                      rw [List.reverse_cons, List.map_append, List.length_append]
                      simp
                    rw [etk] at hI3
                    have ho7 : (ms.filter fun x => !x.testBit q).length ≤ 7 := Nat.le_trans (List.length_filter_le _ _) h7
                    (with_reducible rename News _ _ _ _ => NA)
                    rename_i P1 po1 _ _ _ _ _
                    k_call_by "mine" (ih D2 P1 ys2 po1 (ms.filter fun x => !x.testBit q) ys2.length 0 hy2 hI3 ho7 (by omega) (fun q hq => h16 q (List.mem_cons_of_mem _ hq)))
                    refine WonRet.all ?_
                    intro Doff offs coff hoff h7' tk7 F7 N7 G7 O7
                    simp only [List.forall_mem_cons] at n1
                    obtain ⟨n11, n12, n13, n14, n15, n16, _⟩ := n1
                    have nd : ∀ x, @LT.lt Nat _ x P1 → @Ne Nat x D2 → x ∉ [(D2, W.listOf ys2.toArray ys2.length), (P1, W.listOf po1.toArray 0)].map (·.1) := fun x h1 h2 => by
                      simp only [List.map_cons, List.map_nil, List.mem_cons, List.not_mem_nil, or_false, not_or]
                      exact ⟨h2, Nat.ne_of_lt h1⟩
                    have a1 := ret_ne NA O7 List.mem_cons_self (b := L' + 1 + 1) (by k_mem) (nd _ (by omega) n13)
                    have a2 := ret_ne NA O7 List.mem_cons_self (b := L' + 1) (by k_mem) (nd _ (by omega) n14)
                    have a3 := ret_ne NA O7 List.mem_cons_self (b := sa) (by k_mem) (nd _ (by omega) n15)
                    have a4 := ret_ne NA O7 List.mem_cons_self (b := oa) (by k_mem) (nd _ (by omega) n16)
                    have N8 := News.join (rest := [(L' + 1 + 1, oN), (L' + 1, _), (sa, W.listOf sv.toArray ns), (oa, W.listOf ov.toArray no)]) NA G7 (News.subs N7 (news := [(Doff, W.listOf offs.toArray coff)]) (by intro p hp; rw [List.mem_singleton.mp hp]; exact List.mem_cons_self))
                      (List.forall_mem_cons.mpr ⟨by k_mem, List.forall_mem_cons.mpr ⟨by k_mem, List.forall_mem_cons.mpr ⟨by k_mem, List.forall_mem_cons.mpr ⟨by k_mem, fun _ h => nomatch h⟩⟩⟩⟩)
                      (List.forall_mem_cons.mpr ⟨nd _ (by omega) n13, List.forall_mem_cons.mpr ⟨nd _ (by omega) n14, List.forall_mem_cons.mpr ⟨nd _ (by omega) n15, List.forall_mem_cons.mpr ⟨nd _ (by omega) n16, fun _ h => nomatch h⟩⟩⟩⟩)
                    clear N7 G7 O7 NA
                    simp only [List.cons_append, List.nil_append] at N8
                    clear off9 n11 n12 n13 n14 n15 n16 nd a2 a3 a4
                    k_steps
                    unfold Stop
                    exact by
                      refine LCt.ListComp_T (F₀ := by k_asm) (by with_unfolding_all rfl) (by decide) (by rfl) (by decide) (by rfl) ?_
                      k_steps
                      unfold Stop
                      exact by
                        (with_reducible rename News _ _ _ _ => NB)
                        refine LCt.CompSrcT.ledger (by rfl) (by k_asm) NB (ax := sa) (its := sv.toArray) (k := ns) (by k_mem) (by rw [List.size_toArray, ints_len hsv, List.length_map, PySem.sizeLine_eq]; omega) ?_
                        intro g9
                        refine comp_restT (SameI _ fun i => ((((ms.take i).filter fun x => x.testBit q).map (· - 2 ^ q)).map fun (x : Nat) => (x : Int))) (.mk .nil) ?_ ?_
                        · intro i2 v I oI C oC D3 m₂ hh2 tk2 E' hi2
                          intro ys3
                          refine SameI.all ?_
                          rintro hy3 hv2 hoC hx2 F9 N9 off9 ne9
                          obtain ⟨qk, tq, hqk, rfl⟩ := ints_at hsv (by simpa using hv2)
                          obtain ⟨x, hx, rfl⟩ : ∃ x : Nat, ms[i2]? = some x ∧ qk = (x : Int) := by
                            simp only [List.getElem?_map] at hqk
                            cases hc : ms[i2]? with
                            | none => rw [hc] at hqk; cases hqk
                            | some M => rw [hc] at hqk; exact ⟨M, rfl, (Option.some.inj hqk).symm⟩
                          k_steps
                          · refine comp_end (by assumption) (by assumption) off9 (.inr ⟨W.listOf sv.toArray ns, by k_mem, rfl, ns, rfl⟩) (.mk ?_)
                            rw [List.take_add_one, hx, Option.toList_some, List.filter_append, List.map_append, List.map_append]
                            have hb : x.testBit q = true := (bit_test x q).mp (by assumption)
                            simp only [List.filter_cons, hb, if_true, List.filter_nil, List.map_cons, List.map_nil]
                            rw [← sub_bit x q hb]
                            exact hy3.append (.cons _ _ .nil)
                          · refine comp_end (by assumption) (by assumption) off9 (.inr ⟨W.listOf sv.toArray ns, by k_mem, rfl, ns, rfl⟩) (.mk ?_)
                            rw [List.take_add_one, hx, Option.toList_some, List.filter_append, List.map_append, List.map_append]
                            have hb : x.testBit q = false := by
                              cases hc : x.testBit q with
                              | false => rfl
                              | true => exact absurd ((bit_test x q).mpr hc) (by assumption)
                            simp only [List.filter_cons, hb, Bool.false_eq_true, if_false, List.filter_nil, List.map_nil, List.append_nil]
                            exact hy3
                        · intro ys3
                          refine SameI.all ?_
                          intro hy3
                          intro D3 hh9 tk9 F9 N9 off9
                          rw [hpsz, List.take_length] at hy3
                          have n1 := off1_mem _ off9
                          k_steps
                          unfold Stop
                          exact by
                            (with_reducible rename IntsAre _ (List.take _ _) => hI4)
                            rw [etk] at hI4
                            have ho8 : ((ms.filter fun x => x.testBit q).map (· - 2 ^ q)).length ≤ 7 := by rw [List.length_map]; exact Nat.le_trans (List.length_filter_le _ _) h7
                            (with_reducible rename News _ _ _ _ => NA)
                            rename_i P2 po2 _ _ _ _ _
                            k_call_by "mine" (ih D3 P2 ys3 po2 ((ms.filter fun x => x.testBit q).map (· - 2 ^ q)) ys3.length 0 hy3 hI4 ho8 (by omega) (fun q hq => h16 q (List.mem_cons_of_mem _ hq)))
                            refine WonRet.all ?_
                            intro Don ons con hon h7' tk7 F7 N7 G7 O7
                            simp only [List.forall_mem_cons] at n1
                            obtain ⟨n12, n13, n14, n15, n16, _⟩ := n1
                            have nd : ∀ x, @LT.lt Nat _ x P2 → @Ne Nat x D3 → x ∉ [(D3, W.listOf ys3.toArray ys3.length), (P2, W.listOf po2.toArray 0)].map (·.1) := fun x h1 h2 => by
                              simp only [List.map_cons, List.map_nil, List.mem_cons, List.not_mem_nil, or_false, not_or]
                              exact ⟨h2, Nat.ne_of_lt h1⟩
                            have N8 := News.join (rest := [(Doff, W.listOf offs.toArray coff), (L' + 1 + 1, _), (L' + 1, _), (sa, W.listOf sv.toArray ns), (oa, W.listOf ov.toArray no)]) NA G7 (News.subs N7 (news := [(Don, W.listOf ons.toArray con)]) (by intro p hp; rw [List.mem_singleton.mp hp]; exact List.mem_cons_self))
                              (List.forall_mem_cons.mpr ⟨by k_mem, List.forall_mem_cons.mpr ⟨by k_mem, List.forall_mem_cons.mpr ⟨by k_mem, List.forall_mem_cons.mpr ⟨by k_mem, List.forall_mem_cons.mpr ⟨by k_mem, fun _ h => nomatch h⟩⟩⟩⟩⟩)
                              (List.forall_mem_cons.mpr ⟨nd _ (by omega) n12, List.forall_mem_cons.mpr ⟨nd _ (by omega) n13, List.forall_mem_cons.mpr ⟨nd _ (by omega) n14, List.forall_mem_cons.mpr ⟨nd _ (by omega) n15, List.forall_mem_cons.mpr ⟨nd _ (by omega) n16, fun _ h => nomatch h⟩⟩⟩⟩⟩)
                            clear N7 G7 O7 NA off9 n12 n13 n14 n15 n16 nd
                            simp only [List.cons_append, List.nil_append] at N8
                            have wl1 := won_len r (ms.filter fun x => !x.testBit q)
                            have wl2 := won_len r ((ms.filter fun x => x.testBit q).map (· - 2 ^ q))
                            have honl : ons.length ≤ 7 := by rw [ints_len hon, List.length_map]; omega
                            generalize hWo : wonR r (ms.filter fun x => !x.testBit q) = Wo at hoff wl1
                            generalize hWn : wonR r ((ms.filter fun x => x.testBit q).map (· - 2 ^ q)) = Wn at hon wl2
                            k_steps
                            unfold Stop
                            exact by
                              refine LCt.ListComp_T (F₀ := by k_asm) (by with_unfolding_all rfl) (by decide) (by rfl) (by decide) (by rfl) ?_
                              k_steps
                              unfold Stop
                              exact by
                                (with_reducible rename News _ _ _ _ => NB)
                                refine LCt.CompSrcT.ledger (by rfl) (by k_asm) NB (ax := Don) (its := ons.toArray) (k := con) (by k_mem) (by rw [List.size_toArray, PySem.sizeLine_eq]; omega) ?_
                                intro g10
                                refine comp_restT (SameI _ fun i => (((Wn.take i).filter fun x => decide (x ∉ Wo)).map fun (x : Nat) => (x : Int))) (.mk .nil) ?_ ?_
                                · intro i2 v I oI C oC D4 m₂ hh2 tk2 E' hi2
                                  intro ys4
                                  refine SameI.all ?_
                                  rintro hy4 hv2 hoC hx2 F9 N9 off9 ne9
                                  obtain ⟨qk, tq, hqk, rfl⟩ := ints_at hon (by simpa using hv2)
                                  obtain ⟨x, hx, rfl⟩ : ∃ x : Nat, Wn[i2]? = some x ∧ qk = (x : Int) := by
                                    simp only [List.getElem?_map] at hqk
                                    cases hc : Wn[i2]? with
                                    | none => rw [hc] at hqk; cases hqk
                                    | some M => rw [hc] at hqk; exact ⟨M, rfl, (Option.some.inj hqk).symm⟩
                                  k_steps
                                  unfold Stop
                                  exact by
                                    (with_reducible rename News _ _ _ _ => NC)
                                    refine notin_list_ints (News.isList NC (by k_mem)) hoff ?_
                                    rw [ints_any]
                                    by_cases hin : x ∈ Wo
                                    · rw [decide_eq_true hin, Bool.not_true]
                                      k_steps
                                      refine comp_end (by assumption) (by assumption) off9 (.inr ⟨W.listOf ons.toArray con, by k_mem, rfl, con, rfl⟩) (.mk ?_)
                                      rw [List.take_add_one, hx, Option.toList_some, List.filter_append, List.map_append]
                                      simp only [List.filter_cons, hin, not_true_eq_false, decide_false, Bool.false_eq_true, if_false, List.filter_nil, List.map_nil, List.append_nil]
                                      exact hy4
                                    · rw [decide_eq_false hin, Bool.not_false]
                                      k_steps
                                      refine comp_end (by assumption) (by assumption) off9 (.inr ⟨W.listOf ons.toArray con, by k_mem, rfl, con, rfl⟩) (.mk ?_)
                                      rw [List.take_add_one, hx, Option.toList_some, List.filter_append, List.map_append]
                                      simp only [List.filter_cons, hin, not_false_eq_true, decide_true, if_true, List.filter_nil, List.map_cons, List.map_nil]
                                      exact hy4.append (.cons _ _ .nil)
                                · intro ys4
                                  refine SameI.all ?_
                                  intro hy4
                                  intro D4 hh10 tk10 F10 N10 off10
                                  have hlen : ons.toArray.size = Wn.length := by rw [List.size_toArray, ints_len hon, List.length_map]
                                  rw [hlen, List.take_length] at hy4
                                  clear off10
                                  k_steps
                                  unfold Stop
                                  exact by
                                    (with_reducible rename News _ _ _ _ => NB2)
                                    refine kmk_add_ints (by k_asm) NB2 (News.isList NB2 (by k_mem)) (News.isList NB2 (by k_mem)) hoff hy4 ?_ (by rw [List.length_map, List.length_map, PySem.sizeLine_eq]; have := List.length_filter_le (fun x => decide (x ∉ Wo)) Wn; have := List.length_filter_le (fun x => !x.testBit q) ms; omega)
                                    intro D5 us5 h5' F5' N5' l5 hu5
                                    k_steps
                                    unfold Stop
                                    exact by
                                      refine LCt.ListComp_T (F₀ := by k_asm) (by with_unfolding_all rfl) (by decide) (by rfl) (by decide) (by rfl) ?_
                                      k_steps
                                      unfold Stop
                                      exact by
                                        (with_reducible rename News _ _ _ _ => NB)
                                        refine LCt.CompSrcT.ledger (by rfl) (by k_asm) NB (ax := Don) (its := ons.toArray) (k := con) (by k_mem) (by rw [List.size_toArray, PySem.sizeLine_eq]; omega) ?_
                                        intro g11
                                        refine comp_restT (SameI _ fun i => ((((Wn.take i).filter fun x => decide (x ∈ Wo)).map (· + 2 ^ q)).map fun (x : Nat) => (x : Int))) (.mk .nil) ?_ ?_
                                        · intro i2 v I oI C oC D6 m₂ hh2 tk2 E' hi2
                                          intro ys6
                                          refine SameI.all ?_
                                          rintro hy6 hv2 hoC hx2 F9 N9 off9 ne9
                                          obtain ⟨qk, tq, hqk, rfl⟩ := ints_at hon (by simpa using hv2)
                                          obtain ⟨x, hx, rfl⟩ : ∃ x : Nat, Wn[i2]? = some x ∧ qk = (x : Int) := by
                                            simp only [List.getElem?_map] at hqk
                                            cases hc : Wn[i2]? with
                                            | none => rw [hc] at hqk; cases hqk
                                            | some M => rw [hc] at hqk; exact ⟨M, rfl, (Option.some.inj hqk).symm⟩
                                          k_steps
                                          unfold Stop
                                          exact by
                                            (with_reducible rename News _ _ _ _ => NC)
                                            refine in_list_ints (News.isList NC (by k_mem)) hoff ?_
                                            rw [ints_any]
                                            by_cases hin : x ∈ Wo
                                            · rw [decide_eq_true hin]
                                              k_steps
                                              refine comp_end (by assumption) (by assumption) off9 (.inr ⟨W.listOf ons.toArray con, by k_mem, rfl, con, rfl⟩) (.mk ?_)
                                              rw [List.take_add_one, hx, Option.toList_some, List.filter_append, List.map_append, List.map_append]
                                              simp only [List.filter_cons, hin, decide_true, if_true, List.filter_nil, List.map_cons, List.map_nil]
                                              rw [← plus_bit x q]
                                              exact hy6.append (.cons _ _ .nil)
                                            · rw [decide_eq_false hin]
                                              k_steps
                                              refine comp_end (by assumption) (by assumption) off9 (.inr ⟨W.listOf ons.toArray con, by k_mem, rfl, con, rfl⟩) (.mk ?_)
                                              rw [List.take_add_one, hx, Option.toList_some, List.filter_append, List.map_append, List.map_append]
                                              simp only [List.filter_cons, hin, decide_false, Bool.false_eq_true, if_false, List.filter_nil, List.map_nil, List.append_nil]
                                              exact hy6
                                        · intro ys6
                                          refine SameI.all ?_
                                          intro hy6
                                          intro D6 hh12 tk12 F12 N12 off12
                                          rw [hlen, List.take_length] at hy6
                                          clear off12
                                          k_steps
                                          unfold Stop
                                          exact by
                                            (with_reducible rename News _ _ _ _ => NB3)
                                            refine kmk_add_ints (by k_asm) NB3 (News.isList NB3 (by k_mem)) (News.isList NB3 (by k_mem)) hu5 hy6 ?_ (by rw [List.length_append, List.length_map, List.length_map, List.length_map, List.length_map, PySem.sizeLine_eq]; have := List.length_filter_le (fun x => decide (x ∉ Wo)) Wn; have := List.length_filter_le (fun x => decide (x ∈ Wo)) Wn; have := List.length_filter_le (fun x => !x.testBit q) ms; omega)
                                            intro D7 us7 h7'' F7' N7' l7 hu7
                                            k_steps
                                            refine Done.intro (by assumption) N7' [(D7, W.listOf us7.toArray 0), (sa, W.listOf sv.toArray ns), (oa, W.listOf ov.toArray no)] ?_ ⟨D7, us7, 0, ?_⟩
                                            · intro q hq
                                              simp only [List.mem_cons, List.not_mem_nil, or_false] at hq
                                              rcases hq with rfl | rfl | rfl <;> k_mem
                                            · have e : wonR (q :: r) ms = Wo ++ (Wn.filter fun x => decide (x ∉ Wo)) ++ ((Wn.filter fun x => decide (x ∈ Wo)).map (· + 2 ^ q)) := by
                                                conv => lhs; unfold wonR
                                                rw [if_neg h0, hWo, hWn]
                                              rw [e, List.map_append, List.map_append]
                                              exact hu7
end
end
theorem words_none_Tab : True := by
  w_top off
  k_with_none
  exact True.intro
section
open PySem
/-! the table of a set: its search and its layout -/
noncomputable def Rise (xs : Array Nat) : Prop := xs.toList.Pairwise (· < ·)
theorem rise_lt {xs : Array Nat} (h : Rise xs) {i j : Nat} (hij : i < j) (hj : j < xs.size) : xs.getD i 0 < xs.getD j 0 := by
  have hi : i < xs.size := by omega
  have := List.pairwise_iff_getElem.mp h i j (by simpa using hi) (by simpa using hj) hij
  simpa [Array.getD, hi, hj] using this
theorem rise_le {xs : Array Nat} (h : Rise xs) {i j : Nat} (hij : i ≤ j) (hj : j < xs.size) : xs.getD i 0 ≤ xs.getD j 0 := by
  rcases Nat.lt_or_eq_of_le hij with h1 | h1
  · exact Nat.le_of_lt (rise_lt h h1 hj)
  · rw [h1]; exact Nat.le_refl _
theorem below_go {xs : Array Nat} (h : Rise xs) (j : Nat) : ∀ (fuel lo hi : Nat), hi - lo ≤ fuel → lo ≤ hi → hi ≤ xs.size → (∀ i, i < lo → xs.getD i 0 < j) → (∀ i, hi ≤ i → i < xs.size → j ≤ xs.getD i 0) →
    SetTable.below.go xs j fuel lo hi ≤ xs.size ∧ (∀ i, i < SetTable.below.go xs j fuel lo hi → xs.getD i 0 < j) ∧ (∀ i, SetTable.below.go xs j fuel lo hi ≤ i → i < xs.size → j ≤ xs.getD i 0)
  | 0, lo, hi, hf, hlo, hhi, h1, h2 => by
    unfold SetTable.below.go
    have : hi = lo := by omega
    subst this
    exact ⟨hhi, h1, h2⟩
  | fuel + 1, lo, hi, hf, hlo, hhi, h1, h2 => by
    unfold SetTable.below.go
    by_cases hl : lo < hi
    · rw [if_pos hl]
      dsimp only
      have hm : (lo + hi) / 2 < hi := by omega
      have hm2 : lo ≤ (lo + hi) / 2 := by omega
      have hms : (lo + hi) / 2 < xs.size := by omega
      rw [show xs.getD ((lo + hi) / 2) j = xs.getD ((lo + hi) / 2) 0 by simp [Array.getD, hms]]
      by_cases hc : xs.getD ((lo + hi) / 2) 0 < j
      · rw [if_pos hc]
        refine below_go h j fuel _ _ (by omega) (by omega) hhi (fun i hi' => ?_) h2
        exact Nat.lt_of_le_of_lt (rise_le h (show i ≤ (lo + hi) / 2 by omega) (by omega)) hc
      · rw [if_neg hc]
        refine below_go h j fuel _ _ (by omega) (by omega) (by omega) h1 (fun i hi' hs => ?_)
        exact Nat.le_trans (Nat.le_of_not_lt hc) (rise_le h hi' hs)
    · rw [if_neg hl]
      have : hi = lo := by omega
      subst this
      exact ⟨hhi, h1, h2⟩
theorem below_spec {xs : Array Nat} (h : Rise xs) (j : Nat) : SetTable.below xs j ≤ xs.size ∧ (∀ i, i < SetTable.below xs j → xs.getD i 0 < j) ∧ (∀ i, SetTable.below xs j ≤ i → i < xs.size → j ≤ xs.getD i 0) :=
  below_go h j xs.size 0 xs.size (by omega) (by omega) (Nat.le_refl _) (fun _ h => by omega) (fun _ h1 h2 => by omega)
/-- the place before which all are less -/
theorem below_at {xs : Array Nat} (h : Rise xs) (j k : Nat) (hk : k ≤ xs.size) (h1 : ∀ i, i < k → xs.getD i 0 < j) (h2 : ∀ i, k ≤ i → i < xs.size → j ≤ xs.getD i 0) : SetTable.below xs j = k := by
  obtain ⟨b0, b1, b2⟩ := below_spec h j
  rcases Nat.lt_trichotomy (SetTable.below xs j) k with c | c | c
  · have := h1 _ c
    have := b2 _ (Nat.le_refl _) (by omega)
    omega
  · exact c
  · have := b1 _ c
    have := h2 _ (Nat.le_refl _) (by omega)
    omega
theorem rise_insert {xs : Array Nat} (h : Rise xs) (j : Nat) (hj : j ∉ xs.toList) : Rise (SetTable.insertAt xs (SetTable.below xs j) j) := by
  obtain ⟨b0, b1, b2⟩ := below_spec h j
  unfold Rise
  rw [SetTable.toList_insertAt]
  have e := List.take_append_drop (SetTable.below xs j) xs.toList
  have hp : (xs.toList.take (SetTable.below xs j) ++ xs.toList.drop (SetTable.below xs j)).Pairwise (· < ·) := by rw [e]; exact h
  obtain ⟨p1, p2, p3⟩ := List.pairwise_append.mp hp
  have lo : ∀ x ∈ xs.toList.take (SetTable.below xs j), x < j := fun x hx => by
    obtain ⟨i, hi⟩ := List.getElem?_of_mem hx
    rw [List.getElem?_take] at hi
    split at hi
    · rename_i hlt
      have := b1 i hlt
      rw [Array.getElem?_toList] at hi
      rw [Array.getD_eq_getD_getElem?, hi] at this
      exact this
    · cases hi
  have hi : ∀ x ∈ xs.toList.drop (SetTable.below xs j), j < x := fun x hx => by
    have hx' := List.mem_of_mem_drop hx
    obtain ⟨i, hi⟩ := List.getElem?_of_mem hx
    rw [List.getElem?_drop, Array.getElem?_toList] at hi
    have hs : SetTable.below xs j + i < xs.size := (Array.getElem?_eq_some_iff.mp hi).1
    have := b2 _ (Nat.le_add_right _ i) hs
    rw [Array.getD_eq_getD_getElem?, hi] at this
    have h3 : j ≤ x := this
    rcases Nat.lt_or_eq_of_le h3 with h4 | h4
    · exact h4
    · exact absurd (h4 ▸ hx') hj
  refine List.pairwise_append.mpr ⟨p1, List.pairwise_cons.mpr ⟨hi, p2⟩, fun x hx y hy => ?_⟩
  rcases List.mem_cons.mp hy with rfl | hy
  · exact lo x hx
  · exact Nat.lt_trans (lo x hx) (hi y hy)
theorem slot_empty {t : SetTable} (hd : t.dummies = #[]) {j : Nat} (hj : j ∉ t.place.toList) : t.slot j = .empty := by
  unfold SetTable.slot
  dsimp only
  have h1 : (t.place[SetTable.below t.place j]? == some j) = false := by
    cases hc : t.place[SetTable.below t.place j]? with
    | none => rfl
    | some x =>
      have hm : x ∈ t.place.toList := by
        have := hc
        rw [← Array.getElem?_toList] at this
        exact List.mem_of_getElem? this
      have : x ≠ j := fun e => hj (e ▸ hm)
      simpa using this
  rw [h1, hd]
  rfl
theorem slot_free {t : SetTable} (h : Rise t.place) {j : Nat} (hs : t.slot j = .empty) : j ∉ t.place.toList := by
  intro hm
  obtain ⟨i, hi⟩ := List.getElem?_of_mem hm
  rw [Array.getElem?_toList] at hi
  have hsz : i < t.place.size := (Array.getElem?_eq_some_iff.mp hi).1
  have hv : t.place.getD i 0 = j := by rw [Array.getD_eq_getD_getElem?, hi]; rfl
  have hb : SetTable.below t.place j = i := below_at h j i (by omega) (fun k hk => hv ▸ rise_lt h hk hsz) (fun k hk hks => hv ▸ rise_le h hk hks)
  unfold SetTable.slot at hs
  dsimp only at hs
  rw [hb, hi] at hs
  simp at hs
/-! the search comes by every slot -/
noncomputable def leaps (mask : Nat) : Nat → Nat × Nat → Nat × Nat
  | 0, q => q
  | m + 1, q => leaps mask m (SetTable.leap mask q.1 q.2)
theorem leaps_add (mask : Nat) : ∀ (a b : Nat) (q : Nat × Nat), leaps mask (a + b) q = leaps mask b (leaps mask a q)
  | 0, b, q => by rw [Nat.zero_add]; rfl
  | a + 1, b, q => by
    rw [show a + 1 + b = (a + b) + 1 by omega]
    show leaps mask (a + b) _ = leaps mask b (leaps mask a _)
    exact leaps_add mask a b _
theorem leaps_perturb (mask : Nat) : ∀ (a : Nat) (q : Nat × Nat), (leaps mask a q).2 = q.2 / 32 ^ a
  | 0, q => by simp [leaps]
  | a + 1, q => by
    show (leaps mask a _).2 = _
    rw [leaps_perturb mask a]
    show q.2 / 32 / 32 ^ a = _
    rw [Nat.div_div_eq_div_mul, Nat.pow_succ, Nat.mul_comm]
theorem leaps_lt (mask : Nat) : ∀ (a : Nat) (q : Nat × Nat), q.1 < mask + 1 → (leaps mask a q).1 < mask + 1
  | 0, _, h => h
  | a + 1, q, _ => leaps_lt mask a _ (Nat.mod_lt _ (Nat.succ_pos _))
theorem orbit7 : ∀ i, i < 8 → ∀ j, j < 8 → ∃ m, m < 8 ∧ (leaps 7 m (i, 0)).1 = j := by decide +kernel
theorem orbit31 : ∀ i, i < 32 → ∀ j, j < 32 → ∃ m, m < 32 ∧ (leaps 31 m (i, 0)).1 = j := by decide +kernel
theorem orbit {mask : Nat} (hm : mask = 7 ∨ mask = 31) (q : Nat × Nat) (h1 : q.1 < mask + 1) (h2 : q.2 < 2 ^ 64) (j : Nat) (hj : j < mask + 1) : ∃ m, m < 13 + (mask + 1) ∧ (leaps mask m q).1 = j := by
  have e : leaps mask 13 q = ((leaps mask 13 q).1, 0) := by
    have h3 := leaps_perturb mask 13 q
    rw [Nat.div_eq_of_lt (Nat.lt_of_lt_of_le h2 (by decide))] at h3
    exact Prod.ext rfl h3
  have hi := leaps_lt mask 13 q h1
  rcases hm with rfl | rfl
  · obtain ⟨m, hm, em⟩ := orbit7 _ hi j hj
    exact ⟨13 + m, by omega, by rw [leaps_add, e]; exact em⟩
  · obtain ⟨m, hm, em⟩ := orbit31 _ hi j hj
    exact ⟨13 + m, by omega, by rw [leaps_add, e]; exact em⟩
section
variable {t : SetTable} {h : Int}
noncomputable def atLeap (t : SetTable) (q : Nat × Nat) (d : Option Nat) : SetTable.Probe := { j := q.1, more := SetTable.runEnd t.mask q.1 - q.1, i := q.1, perturb := q.2, dummy := d }
theorem go_succ (hd : t.dummies = #[]) (fuel : Nat) (p : SetTable.Probe) : SetTable.probe.go t (fun _ => h + 1) h (fuel + 1) p = if t.slot p.j = .empty then some (.empty p.j p.dummy) else SetTable.probe.go t (fun _ => h + 1) h fuel (t.advance p) := by
  conv => lhs; unfold SetTable.probe.go
  cases hs : t.slot p.j with
  | empty => rfl
  | dummy =>
    exfalso
    unfold SetTable.slot at hs
    dsimp only at hs
    rw [hd] at hs
    split at hs
    · cases hs
    · split at hs
      · rename_i h2
        revert h2
        simp [SetTable.has]
      · cases hs
  | live i =>
    have : (h + 1 == h) = false := beq_eq_false_iff_ne.mpr (by omega)
    simp [this]
theorem go_less (hd : t.dummies = #[]) : ∀ (fuel : Nat) (p : SetTable.Probe), SetTable.probe.go t (fun _ => h + 1) h (fuel + 1) p = none → SetTable.probe.go t (fun _ => h + 1) h fuel p = none
  | 0, p, _ => by unfold SetTable.probe.go; rfl
  | fuel + 1, p, hn => by
    rw [go_succ hd] at hn ⊢
    split at hn
    · cases hn
    · rename_i hs
      rw [if_neg hs]
      exact go_less hd fuel _ hn
theorem go_lesses (hd : t.dummies = #[]) (k : Nat) : ∀ (fuel : Nat) (p : SetTable.Probe), SetTable.probe.go t (fun _ => h + 1) h (fuel + k) p = none → SetTable.probe.go t (fun _ => h + 1) h fuel p = none := by
  induction k with
  | zero => intro fuel p hn; exact hn
  | succ k ih => intro fuel p hn; exact ih fuel p (go_less hd _ _ hn)
theorem go_run (hd : t.dummies = #[]) : ∀ (m fuel : Nat) (p : SetTable.Probe), p.more = m → SetTable.probe.go t (fun _ => h + 1) h (fuel + (m + 1)) p = none →
    t.slot p.j ≠ .empty ∧ SetTable.probe.go t (fun _ => h + 1) h fuel (atLeap t (SetTable.leap t.mask p.i p.perturb) p.dummy) = none
  | 0, fuel, p, hm, hn => by
    rw [go_succ hd] at hn
    split at hn
    · cases hn
    · rename_i hs
      refine ⟨hs, ?_⟩
      have e : t.advance p = atLeap t (SetTable.leap t.mask p.i p.perturb) p.dummy := by
        unfold SetTable.advance atLeap
        rw [hm]; rfl
      rw [← e]; exact hn
  | m + 1, fuel, p, hm, hn => by
    rw [show fuel + (m + 1 + 1) = (fuel + (m + 1)) + 1 by omega, go_succ hd] at hn
    split at hn
    · cases hn
    · rename_i hs
      refine ⟨hs, ?_⟩
      have e : t.advance p = { p with j := p.j + 1, more := p.more - 1 } := by
        unfold SetTable.advance
        rw [if_pos (by omega)]
      rw [e] at hn
      have := go_run hd m fuel { p with j := p.j + 1, more := p.more - 1 } (by show p.more - 1 = m; omega) hn
      exact this.2
theorem run_le (mask i : Nat) : SetTable.runEnd mask i - i ≤ 9 := by unfold SetTable.runEnd; split <;> omega
theorem go_leaps (hd : t.dummies = #[]) (d : Option Nat) : ∀ (m : Nat) (q : Nat × Nat) (fuel : Nat), SetTable.probe.go t (fun _ => h + 1) h (fuel + 10 * (m + 1)) (atLeap t q d) = none → t.slot (leaps t.mask m q).1 ≠ .empty
  | 0, q, fuel, hn => by
    have hr := run_le t.mask q.1
    rw [show fuel + 10 * (0 + 1) = (fuel + (9 - (SetTable.runEnd t.mask q.1 - q.1))) + ((SetTable.runEnd t.mask q.1 - q.1) + 1) by omega] at hn
    exact (go_run hd _ _ _ rfl hn).1
  | m + 1, q, fuel, hn => by
    have hr := run_le t.mask q.1
    rw [show fuel + 10 * (m + 1 + 1) = (fuel + (9 - (SetTable.runEnd t.mask q.1 - q.1)) + 10 * (m + 1)) + ((SetTable.runEnd t.mask q.1 - q.1) + 1) by omega] at hn
    exact go_leaps hd d m _ _ (go_run hd _ _ _ rfl hn).2
theorem go_found (hd : t.dummies = #[]) : ∀ (fuel : Nat) (p : SetTable.Probe) (r : SetTable.Met), SetTable.probe.go t (fun _ => h + 1) h fuel p = some r → ∃ j, r = .empty j p.dummy ∧ t.slot j = .empty
  | 0, p, r, hn => by unfold SetTable.probe.go at hn; cases hn
  | fuel + 1, p, r, hn => by
    rw [go_succ hd] at hn
    split at hn
    · rename_i hs
      exact ⟨p.j, (Option.some.inj hn).symm, hs⟩
    · obtain ⟨j, e, hs⟩ := go_found hd fuel _ r hn
      refine ⟨j, ?_, hs⟩
      rw [e]
      unfold SetTable.advance
      split <;> rfl
theorem free_j {xs : List Nat} {n : Nat} (h : xs.length < n) : ∃ j, j < n ∧ j ∉ xs := by
  apply Classical.byContradiction
  intro hno
  have hs : List.range n ⊆ xs := fun j hj => Classical.byContradiction fun hx => hno ⟨j, List.mem_range.mp hj, hx⟩
  have := List.Nodup.length_le_of_subset List.nodup_range hs
  rw [List.length_range] at this
  omega
theorem freeSlot_some (hd : t.dummies = #[]) (hm : t.mask = 7 ∨ t.mask = 31) (hsz : t.place.size < t.mask + 1) : ∃ j, t.freeSlot h = some (j, false) ∧ t.slot j = .empty := by
  unfold SetTable.freeSlot SetTable.probe
  have hb : SetTable.bits h < 2 ^ 64 := by
    unfold SetTable.bits
    have h1 := Int.emod_lt_of_pos h (b := (2 : Int) ^ 64) (by decide)
    have h2 := Int.emod_nonneg h (b := (2 : Int) ^ 64) (by decide)
    omega
  have e0 : t.probeStart h = atLeap t (SetTable.bits h % (t.mask + 1), SetTable.bits h) none := rfl
  rw [e0]
  cases hg : SetTable.probe.go t (fun _ => h + 1) h (10 * SetTable.turns t.mask) (atLeap t (SetTable.bits h % (t.mask + 1), SetTable.bits h) none) with
  | none =>
    exfalso
    obtain ⟨j, hj, hjn⟩ := free_j (xs := t.place.toList) (n := t.mask + 1) (by simpa using hsz)
    obtain ⟨m, hmlt, em⟩ := orbit hm (SetTable.bits h % (t.mask + 1), SetTable.bits h) (Nat.mod_lt _ (Nat.succ_pos _)) hb j hj
    have hfu : 10 * SetTable.turns t.mask = 10 * (SetTable.turns t.mask - (m + 1)) + 10 * (m + 1) := by
      unfold SetTable.turns; omega
    rw [hfu] at hg
    have := go_leaps hd none m _ _ hg
    rw [em] at this
    exact this (slot_empty hd hjn)
  | some r =>
    obtain ⟨j, e, hs⟩ := go_found hd _ _ r hg
    subst e
    exact ⟨j, rfl, hs⟩
end
end
section
open PySem
section
variable {mask : Nat} {owner : Array (Option Nat)}
theorem free_leaps : ∀ (m fuel i perturb : Nat), m < fuel → SetTable.layClean.free mask owner fuel i perturb = none → owner.getD (leaps mask m (i, perturb)).1 (some 0) ≠ none
  | m, 0, _, _, hm, _ => by omega
  | m, fuel + 1, i, perturb, hm, hn => by
    unfold SetTable.layClean.free at hn
    split at hn
    · cases hn
    · rename_i hf
      cases m with
      | zero =>
        have h0 : (0 : Nat) ∈ List.range (SetTable.runEnd mask i + 1 - i) := by
          rw [List.mem_range]; unfold SetTable.runEnd; split <;> omega
        have := List.find?_eq_none.mp hf 0 h0
        intro e
        apply this
        show (owner.getD (i + 0) (some 0)).isNone = true
        rw [Nat.add_zero]
        have e' : owner.getD i (some 0) = none := e
        rw [e']; rfl
      | succ m => exact free_leaps m fuel _ _ (by omega) hn
theorem free_found : ∀ (fuel i perturb j : Nat), SetTable.layClean.free mask owner fuel i perturb = some j → owner.getD j (some 0) = none
  | 0, _, _, _, hn => by unfold SetTable.layClean.free at hn; cases hn
  | fuel + 1, i, perturb, j, hn => by
    unfold SetTable.layClean.free at hn
    split at hn
    · rename_i k hf
      have := List.find?_some hf
      obtain rfl := Option.some.inj hn
      exact Option.isNone_iff_eq_none.mp this
    · exact free_found fuel _ _ j hn
theorem filled_len : ∀ (l : List (Option Nat)), (∀ j : Nat, l[j]? ≠ some none) → (l.filterMap id).length = l.length
  | [], _ => rfl
  | none :: r, h => absurd rfl (h 0)
  | some k :: r, h => by
    have := filled_len r (fun j => h (j + 1))
    simp [this]
theorem free_some (hm : mask = 7 ∨ mask = 31) (hsz : owner.size = mask + 1) (hlt : (owner.toList.filterMap id).length < mask + 1) (x : Int) :
    ∃ j, SetTable.layClean.free mask owner (SetTable.turns mask) (SetTable.bits x % (mask + 1)) (SetTable.bits x) = some j ∧ owner.toList[j]? = some none := by
  have hb : SetTable.bits x < 2 ^ 64 := by
    unfold SetTable.bits
    have h1 := Int.emod_lt_of_pos x (b := (2 : Int) ^ 64) (by decide)
    have h2 := Int.emod_nonneg x (b := (2 : Int) ^ 64) (by decide)
    omega
  cases hf : SetTable.layClean.free mask owner (SetTable.turns mask) (SetTable.bits x % (mask + 1)) (SetTable.bits x) with
  | some j =>
    refine ⟨j, rfl, ?_⟩
    have := free_found _ _ _ _ hf
    rw [Array.getD_eq_getD_getElem?] at this
    rw [Array.getElem?_toList]
    cases hc : owner[j]? with
    | none => rw [hc] at this; cases this
    | some v => rw [hc] at this; exact congrArg some this
  | none =>
    exfalso
    obtain ⟨j, hj⟩ : ∃ j, owner.toList[j]? = some none := Classical.byContradiction fun hno => by
      have := filled_len owner.toList (fun j e => hno ⟨j, e⟩)
      rw [this, Array.length_toList, hsz] at hlt
      omega
    have hjl : j < mask + 1 := by
      have := (List.getElem?_eq_some_iff.mp hj).1
      rw [Array.length_toList, hsz] at this
      exact this
    obtain ⟨m, hml, em⟩ := orbit hm (SetTable.bits x % (mask + 1), SetTable.bits x) (Nat.mod_lt _ (Nat.succ_pos _)) hb j hjl
    have := free_leaps m _ _ _ (by unfold SetTable.turns; omega) hf
    rw [em] at this
    apply this
    rw [Array.getElem?_toList] at hj
    rw [Array.getD_eq_getD_getElem?, hj]; rfl
theorem set_perm : ∀ (l : List (Option Nat)) (j k : Nat), l[j]? = some none → ((l.set j (some k)).filterMap id).Perm (k :: l.filterMap id)
  | [], _, _, h => by cases h
  | none :: r, 0, k, _ => by simp
  | some v :: r, 0, k, h => by cases h
  | none :: r, j + 1, k, h => by
    have := set_perm r j k h
    simpa using this
  | some v :: r, j + 1, k, h => by
    have := set_perm r j k h
    simp only [List.set_cons_succ, List.filterMap_cons, id]
    exact (List.Perm.cons v this).trans (List.Perm.swap k v _)
noncomputable def layStep (mask : Nat) (acc : Option (Array (Option Nat) × Nat)) (x : Int) : Option (Array (Option Nat) × Nat) := do
  let (owner, k) ← acc
  let j ← SetTable.layClean.free mask owner (SetTable.turns mask) (SetTable.bits x % (mask + 1)) (SetTable.bits x)
  pure (owner.setIfInBounds j (some k), k + 1)
theorem lay_fold (hm : mask = 7 ∨ mask = 31) : ∀ (hs : List Int) (owner : Array (Option Nat)) (k : Nat), owner.size = mask + 1 → (owner.toList.filterMap id).Perm (List.range k) → k + hs.length ≤ mask + 1 →
    ∃ owner', hs.foldl (layStep mask) (some (owner, k)) = some (owner', k + hs.length) ∧ owner'.size = mask + 1 ∧ (owner'.toList.filterMap id).Perm (List.range (k + hs.length))
  | [], owner, k, h1, h2, _ => ⟨owner, rfl, h1, h2⟩
  | x :: r, owner, k, h1, h2, h3 => by
    simp only [List.length_cons] at h3 ⊢
    obtain ⟨j, ej, hj⟩ := free_some hm h1 (by rw [h2.length_eq, List.length_range]; omega) x
    have e : layStep mask (some (owner, k)) x = some (owner.setIfInBounds j (some k), k + 1) := by
      unfold layStep
      simp [ej]
    rw [List.foldl_cons, e]
    have hp : ((owner.setIfInBounds j (some k)).toList.filterMap id).Perm (List.range (k + 1)) := by
      rw [Array.toList_setIfInBounds]
      refine (set_perm _ j k hj).trans ?_
      rw [List.range_succ]
      exact (List.Perm.cons k h2).trans (List.perm_append_singleton _ _).symm
    obtain ⟨o', a, b, c⟩ := lay_fold hm r (owner.setIfInBounds j (some k)) (k + 1) (by simpa using h1) hp (by omega)
    refine ⟨o', ?_, b, ?_⟩
    · rw [a]; congr 2; omega
    · rw [show k + (r.length + 1) = k + 1 + r.length by omega]; exact c
theorem live_fst (g : Nat → Option Nat) : ∀ l : List Nat, ((l.filterMap fun j => (g j).map (j, ·)).map (·.1)).Sublist l
  | [] => .slnil
  | a :: r => by
    have := live_fst g r
    cases hc : g a with
    | none => simp only [List.filterMap_cons, hc, Option.map_none]; exact this.cons a
    | some v => simp only [List.filterMap_cons, hc, Option.map_some, List.map_cons]; exact this.cons_cons a
theorem live_snd (g : Nat → Option Nat) : ∀ l : List Nat, ((l.filterMap fun j => (g j).map (j, ·)).map (·.2)) = l.filterMap g
  | [] => rfl
  | a :: r => by
    have := live_snd g r
    cases hc : g a with
    | none => simp only [List.filterMap_cons, hc, Option.map_none]; exact this
    | some v => simp only [List.filterMap_cons, hc, Option.map_some, List.map_cons]; rw [this]
theorem range_owner (o : Array (Option Nat)) : (List.range o.size).filterMap (fun j => o.getD j none) = o.toList.filterMap id := by
  have e : o.toList = (List.range o.size).map fun j => o.getD j none := by
    apply List.ext_getElem?
    intro i
    rw [List.getElem?_map, Array.getElem?_toList]
    by_cases h : i < o.size
    · rw [List.getElem?_range h, Array.getElem?_eq_getElem h]
      simp [Array.getD, h]
    · rw [Array.getElem?_eq_none (by omega), List.getElem?_eq_none (by simp; omega)]; rfl
  rw [e, List.filterMap_map]
  rfl
theorem laid_ok (hm : mask = 7 ∨ mask = 31) (finger moves : Nat) (led plain : Bool) (hs : Array Int) (hn : hs.size ≤ mask + 1) :
    ∃ place order, SetTable.laid mask finger moves led plain hs = some ({ mask, place, dummies := #[], finger, led, moves, plain }, order) ∧ Rise place ∧ place.size = order.size ∧ order.toList.Perm (List.range hs.size) := by
  have h0 : ((Array.replicate (mask + 1) (none : Option Nat)).toList.filterMap id).Perm (List.range 0) := by
    rw [Array.toList_replicate]
    have : ∀ n, (List.replicate n (none : Option Nat)).filterMap id = [] := fun n => by induction n with
      | zero => rfl
      | succ n ih => rw [List.replicate_succ]; simpa using ih
    rw [this]; exact .nil
  obtain ⟨o', a, b, c⟩ := lay_fold hm hs.toList (Array.replicate (mask + 1) none) 0 (by simp) h0 (by simpa using hn)
  have hl : SetTable.layClean mask hs = some o' := by
    have e : SetTable.layClean mask hs = (hs.foldl (layStep mask) (some (Array.replicate (mask + 1) none, 0))).map (·.1) := rfl
    rw [e, ← Array.foldl_toList, a]; rfl
  refine ⟨(((List.range (mask + 1)).filterMap fun j => (o'.getD j none).map (j, ·)).map (·.1)).toArray, (((List.range (mask + 1)).filterMap fun j => (o'.getD j none).map (j, ·)).map (·.2)).toArray, ?_, ?_, ?_, ?_⟩
  · unfold SetTable.laid
    rw [hl]
    rfl
  · unfold Rise
    show List.Pairwise _ (((List.range (mask + 1)).filterMap fun j => (o'.getD j none).map (j, ·)).map (·.1))
    exact List.Pairwise.sublist (live_fst (fun j => o'.getD j none) _) List.pairwise_lt_range
  · simp
  · show List.Perm (((List.range (mask + 1)).filterMap fun j => (o'.getD j none).map (j, ·)).map (·.2)) _
    rw [live_snd (fun j => o'.getD j none), ← b, range_owner]
    rw [Nat.zero_add, Array.length_toList] at c
    exact c
end
/-- a table that no set of a few ints leaves -/
structure TabOk (b : Bool) (n : Nat) (t : SetTable) : Prop where
  led : t.led = b
  plain : t.plain = true
  rise : Rise t.place
  dum : t.dummies = #[]
  size : t.place.size = n
  mask : (t.mask = 7 ∧ n ≤ 4) ∨ (t.mask = 31 ∧ n ≤ 12)
theorem TabOk.fits {b : Bool} {n : Nat} {t : SetTable} (k : TabOk b n t) : t.fits n = true := by
  unfold SetTable.fits SetTable.fill
  rw [k.size, k.dum]
  rcases k.mask with h | h
  · simp [h.1]; omega
  · simp [h.1]; omega
/-- between the laying of a new one and the growing -/
structure TabMid (b : Bool) (n : Nat) (t : SetTable) : Prop where
  led : t.led = b
  plain : t.plain = true
  rise : Rise t.place
  dum : t.dummies = #[]
  size : t.place.size = n
  mask : (t.mask = 7 ∧ n ≤ 5) ∨ (t.mask = 31 ∧ n ≤ 12)
theorem TabMid.fits {b : Bool} {n : Nat} {t : SetTable} (k : TabMid b n t) : t.fits n = true := by
  unfold SetTable.fits SetTable.fill
  rw [k.size, k.dum]
  rcases k.mask with h | h
  · simp [h.1]; omega
  · simp [h.1]; omega
theorem insertAt_size {α : Type} (xs : Array α) (p : Nat) (x : α) : (SetTable.insertAt xs p x).size = xs.size + 1 := by
  rw [← Array.length_toList, (SetTable.insertAt_perm xs p x).length_eq]; simp
theorem layNew_ok {b : Bool} {n : Nat} {t : SetTable} (k : TabOk b n t) (hn : n ≤ 10) (es : Array (Int × Value)) (he : es.size = n) (h : Int) (x : Value) :
    ∃ es' t', layNew t es h x = (es', t', false, false) ∧ TabMid b (n + 1) t' ∧ es'.size = n + 1 := by
  obtain ⟨j, ej, hs⟩ := freeSlot_some (t := t) (h := h) k.dum (k.mask.elim (fun a => .inl a.1) (fun a => .inr a.1)) (by rw [k.size]; rcases k.mask with a | a <;> omega)
  have hjn := slot_free k.rise hs
  have ht : t.put j = ({ t with place := SetTable.insertAt t.place (SetTable.below t.place j) j, dummies := #[] }, SetTable.below t.place j) := by
    unfold SetTable.put
    rw [k.dum]
    rfl
  have hmid : TabMid b (n + 1) { t with place := SetTable.insertAt t.place (SetTable.below t.place j) j, dummies := #[] } :=
    ⟨k.led, k.plain, rise_insert k.rise j hjn, rfl, by show (SetTable.insertAt _ _ _).size = _; rw [insertAt_size, k.size], by
      rcases k.mask with a | a
      · exact .inl ⟨a.1, by omega⟩
      · exact .inr ⟨a.1, by omega⟩⟩
  have hes : (SetTable.insertAt es (SetTable.below t.place j) (h, x)).size = n + 1 := by rw [insertAt_size, he]
  refine ⟨_, _, ?_, hmid, hes⟩
  unfold layNew
  rw [ej]
  dsimp only
  rw [ht]
  dsimp only
  unfold SetTable.orStandIn
  rw [hes, hmid.fits]
  rfl
theorem tooFull_iff {b : Bool} {n : Nat} {t : SetTable} (k : TabMid b n t) : t.tooFull = true ↔ t.mask = 7 ∧ n = 5 := by
  unfold SetTable.tooFull SetTable.fill
  rw [k.size, k.dum]
  simp only [List.size_toArray, List.length_nil, Nat.add_zero, ge_iff_le, decide_eq_true_eq]
  rcases k.mask with a | a <;> rw [a.1] <;> omega
theorem relay_ok {b : Bool} {t : SetTable} (k : TabMid b 5 t) (es : Array (Int × Value)) (he : es.size = 5) :
    ∃ es' t', relayAll t es (SetTable.grown es.size) = (es', t', false) ∧ TabOk b 5 t' ∧ es'.size = 5 := by
  have hg : SetTable.sizeAbove (SetTable.grown es.size) - 1 = 31 := by rw [he]; decide +kernel
  obtain ⟨place, order, e, hr, hsz, hp⟩ := laid_ok (mask := 31) (.inr rfl) t.finger (t.movedTo 31) t.led t.plain (es.map (·.1)) (by simp [he])
  have hos : order.size = 5 := by
    have := hp.length_eq
    simpa [he] using this
  have hes : (order.filterMap (es[·]?)).size = 5 := by
    have h1 : (order.filterMap (es[·]?)).toList.Perm es.toList := by
      rw [Array.toList_filterMap]
      have hp' : order.toList.Perm (List.range es.size) := by simpa using hp
      exact (hp'.filterMap _).trans (by rw [filterMap_getElem?_range])
    have := h1.length_eq
    rw [Array.length_toList, Array.length_toList, he] at this
    exact this
  have hok : TabOk b 5 { mask := 31, place, dummies := #[], finger := t.finger, led := t.led, moves := t.movedTo 31, plain := t.plain } := ⟨k.led, k.plain, hr, rfl, by show place.size = 5; omega, .inr ⟨rfl, by omega⟩⟩
  refine ⟨_, _, ?_, hok, hes⟩
  unfold relayAll SetTable.relaid
  rw [hg, e]
  dsimp only
  have hc : coversAll order es.size = true := by
    unfold coversAll
    refine List.isPerm_iff.mpr ?_
    simpa using hp
  rw [hc, hes, hok.fits]
  rfl
end
section
open PySem
section
variable {prog : Program} {w : World}
noncomputable def elOf (prog : Program) (w : World) (q : Int × Tok) : Int × Value := ((intKind prog w).hash q.1, .int q.1 q.2)
noncomputable def elBack (e : Int × Value) : Int × Tok := match e.2 with
  | .int k t => (k, t)
  | _ => (0, 0)
theorem el_perm {xs : List (Int × Value)} {l : List (Int × Tok)} (h : xs.Perm (l.map (elOf prog w))) : ∃ l' : List (Int × Tok), xs = l'.map (elOf prog w) ∧ l'.Perm l := by
  refine ⟨xs.map elBack, ?_, ?_⟩
  · rw [List.map_map]
    conv => lhs; rw [← List.map_id xs]
    refine List.map_congr_left fun e he => ?_
    obtain ⟨q, _, rfl⟩ := List.mem_map.mp (h.mem_iff.mp he)
    rfl
  · have := h.map elBack
    rw [List.map_map] at this
    refine this.trans ?_
    have e : (elBack ∘ elOf prog w) = id := by funext q; rfl
    rw [e, List.map_id]
noncomputable def SetOk (prog : Program) (w : World) (h : Heap) (a : Addr) (b : Bool) (K : List Int) : Prop :=
  ∃ o es ep t, ∃ l : List (Int × Tok), h.get? a = some o ∧ o.ExactSet ∧ o.data = .set es ep t ∧ es.toList = l.map (elOf prog w) ∧ (l.map (·.1)).Nodup ∧ (∀ k, k ∈ l.map (·.1) ↔ k ∈ K) ∧ l.length ≤ K.length ∧ TabOk b es.size t
theorem els_of {l : List (Int × Tok)} {es : List (Int × Value)} (h : es = l.map (elOf prog w)) : ElemsOf (intKind prog w) es := by
  subst h
  intro e he
  obtain ⟨q, _, rfl⟩ := List.mem_map.mp he
  exact ⟨⟨q.1, intKind_is _ _ _ _, rfl⟩, rfl⟩
variable {A : Around} {E : Value → Shared → Prop} {s : Shared} {a : Addr} {b : Bool} {K : List Int} {k : Int} {tk : Tok}
theorem set_store {h : Heap} {o : Obj} {es : Array (Int × Value)} {ep : Nat} {t : SetTable} (ho : h.get? a = some o) (hd : o.data = .set es ep t) (es' : Array (Int × Value)) (t' : SetTable) :
    (h.update a (Obj.putSet es' t')).get? a = some { o with data := .set es' (ep + 1) t' } := by
  have := Heap.get?_update_self (Obj.putSet es' t') ho (by rw [putSet_of es' t' hd]; rfl)
  rw [putSet_of es' t' hd] at this; exact this
theorem add_tail {g : Bool → Sem Unit} (hg : ∀ (b : Bool) (s₁ : Shared) (Q' : Unit → Shared → Prop), Q' () s₁ → wpAny (model prog w) A (g b) Q' E s₁)
    {o : Obj} {es : Array (Int × Value)} {ep : Nat} {t : SetTable} (ho : s.heap.get? a = some o) (hex : o.ExactSet) (hd : o.data = .set es ep t)
    {es1 : Array (Int × Value)} {t2 : SetTable} {l1 : List (Int × Tok)} (hel : es1.toList = l1.map (elOf prog w)) (hnd : (l1.map (·.1)).Nodup) (hmem : ∀ k, k ∈ l1.map (·.1) ↔ k ∈ K) (hlen : l1.length ≤ K.length) (hmid : TabMid b es1.size t2)
    {R : Option Bool → Shared → Prop} (h : ∀ h', Heap.SameBut a s.heap h' → SetOk prog w h' a b K → R (some true) { s with heap := h' }) :
    wpAny (model prog w) A (do
        storeSet a es1 t2
        if (!false && t2.tooFull) = true then do
            g (relayAll t2 es1 (SetTable.grown es1.size)).2.2
            storeSet a (relayAll t2 es1 (SetTable.grown es1.size)).1 (relayAll t2 es1 (SetTable.grown es1.size)).2.1
            pure (some true)
          else pure (some true)) R E s := by
  have hsz : es1.size ≤ sizeLine := by
    rw [sizeLine_eq]
    rcases hmid.mask with x | x <;> omega
  refine wpAny_bind (wpAny_storeSet_of ho hd ?_ hsz)
  have ho1 := set_store ho hd es1 t2
  have hsb1 := Heap.SameBut.update s.heap a (Obj.putSet es1 t2)
  split
  · rename_i hf
    have hf' : t2.tooFull = true := by simpa using hf
    obtain ⟨h7, h5⟩ := (tooFull_iff hmid).mp hf'
    have hmid5 : TabMid b 5 t2 := h5 ▸ hmid
    obtain ⟨es2, t3, hR, hok, hs2⟩ := relay_ok hmid5 es1 h5
    have hp := relayAll_perm t2 es1 (SetTable.grown es1.size)
    rw [hR] at hp ⊢
    dsimp only at hp ⊢
    rw [hel] at hp
    obtain ⟨l2, e2, p2⟩ := el_perm hp
    refine wpAny_bind (hg _ _ _ ?_)
    refine wpAny_bind (wpAny_storeSet_of ho1 rfl ?_ (by rw [hs2, sizeLine_eq]; decide))
    have ho2 := set_store (a := a) ho1 rfl es2 t3
    refine wpAny_pure (h _ (hsb1.trans (Heap.SameBut.update _ a _)) ⟨_, es2, _, t3, l2, ho2, hex, rfl, e2, (p2.map _).nodup_iff.mpr hnd, fun k => ((p2.map (·.1)).mem_iff).trans (hmem k), by rw [p2.length_eq]; exact hlen, by rw [hs2]; exact hok⟩)
  · rename_i hf
    refine wpAny_pure (h _ hsb1 ⟨_, es1, _, t2, l1, ho1, hex, rfl, hel, hnd, hmem, hlen, hmid.led, hmid.plain, hmid.rise, hmid.dum, hmid.size, ?_⟩)
    rcases hmid.mask with x | x
    · refine .inl ⟨x.1, ?_⟩
      have : ¬ es1.size = 5 := fun e => hf (by simpa using (tooFull_iff hmid).mpr ⟨x.1, e⟩)
      omega
    · exact .inr x
theorem set_add {Q : Bool → Shared → Prop} (hS : SetOk prog w s.heap a b K) (hl : K.length ≤ 10)
    (h : ∀ h' r, Heap.SameBut a s.heap h' → SetOk prog w h' a b (K ++ [k]) → Q r { s with heap := h' }) :
    wpAny (model prog w) A (setAddHashed a (.int k tk) ((intKind prog w).hash k)) Q E s := by
  obtain ⟨o, es, ep, t, l, ho, hex, hd, hes, hnd, hmem, hlen, htab⟩ := hS
  have hel := els_of hes
  have hf := htab.fits
  have hsz : es.size = l.length := by rw [← Array.length_toList, hes, List.length_map]
  have hb : es.size < scanBound := by
    have : scanBound = 4096 := rfl
    omega
  have hkey : (intKind prog w).is k (Value.int k tk) = true := intKind_is _ _ _ _
  have hsc : (Value.int k tk).scannable = true := rfl
  unfold setAddHashed setAddHashedIn
  refine wpAny_holding (wpAny_bind (wpAny_setState_of ho hd hf ?_))
  dsimp only
  rw [byScan_of hsc hb hel]
  simp only [↓reduceIte]
  unfold setAddByScan
  refine wpAny_bind ?_
  refine wpAny_bind (wpAny_rule ?_)
  refine wpAny_bind (wpAny_setScan_of hkey ho hd hf hel ?_)
  have his : ∀ q : Int × Tok, (intKind prog w).is k (elOf prog w q).2 = decide (k = q.1) := fun q => KeyKind.is_eq_decide (intKind_is _ _ q.1 q.2) k
  cases hr : List.findIdx? (fun e => (intKind prog w).is k e.2) es.toList with
  | some j =>
    dsimp only
    obtain ⟨hj, hpj, _⟩ := List.findIdx?_eq_some_iff_getElem.mp hr
    have hk : k ∈ l.map (·.1) := by
      have hm : es.toList[j] ∈ es.toList := List.getElem_mem hj
      generalize es.toList[j] = e at hm hpj
      rw [hes] at hm
      obtain ⟨q, hq, rfl⟩ := List.mem_map.mp hm
      rw [his q] at hpj
      rw [of_decide_eq_true hpj]
      exact List.mem_map_of_mem hq
    refine wpAny_pure (wpAny_pure ?_)
    have e : s = { s with heap := s.heap } := by cases s; rfl
    rw [e]
    refine h s.heap _ (Heap.SameBut.refl a s.heap) ⟨o, es, ep, t, l, ho, hex, hd, hes, hnd, fun k' => ?_, by rw [List.length_append]; omega, htab⟩
    rw [List.mem_append, ← hmem k', List.mem_singleton]
    exact ⟨.inl, fun x => x.elim id fun e => e ▸ hk⟩
  | none =>
    dsimp only
    have hk : k ∉ l.map (·.1) := fun hk => by
      obtain ⟨q, hq, e⟩ := List.mem_map.mp hk
      have := List.findIdx?_eq_none_iff.mp hr (elOf prog w q) (by rw [hes]; exact List.mem_map_of_mem hq)
      rw [his q, e] at this
      simp at this
    have hgw : ∀ (b : Bool) {s₁ : Shared} {Q' : Unit → Shared → Prop}, Q' () s₁ → wpAny (model prog w) A (match b with | true => rule "set.scan.the-table-gave-way" | false => pure ()) Q' E s₁ :=
      fun b s₁ Q' hq => by cases b <;> first | exact wpAny_pure hq | exact wpAny_rule hq
    have hperm := layNew_perm t es ((intKind prog w).hash k) (.int k tk)
    obtain ⟨es1, t1, hL, hmid, hs1⟩ := layNew_ok htab (by omega) es rfl ((intKind prog w).hash k) (.int k tk)
    rw [hL] at hperm ⊢
    dsimp only at hperm ⊢
    rw [Array.toList_push, hes] at hperm
    have hperm' : es1.toList.Perm ((l ++ [(k, tk)]).map (elOf prog w)) := by rw [List.map_append]; exact hperm
    obtain ⟨l1, e1, p1⟩ := el_perm hperm'
    rw [← hs1] at hmid
    refine wpAny_bind (wpAny_pure ?_)
    rw [if_pos hmid.plain]
    refine wpAny_bind ?_
    rw [hashByValue_scannable 8 hsc]
    refine wpAny_pure ?_
    refine add_tail (K := K ++ [k]) (b := b) (l1 := l1) ?_ ho hex hd e1 ?_ ?_ ?_ ?_ ?_
    · intro b s₁ Q' hq; cases b <;> first | exact wpAny_pure hq | exact wpAny_rule hq
    · refine (p1.map (·.1)).nodup_iff.mpr ?_
      rw [List.map_append, List.nodup_append]
      exact ⟨hnd, by simp, fun x hx y hy e => by
        have : y = k := by simpa using hy
        exact hk (this ▸ e ▸ hx)⟩
    · intro k'
      rw [(p1.map (·.1)).mem_iff, List.map_append, List.mem_append, hmem k', List.mem_append]
      exact Iff.rfl
    · rw [p1.length_eq, List.length_append, List.length_append]; simpa using hlen
    · exact hmid
    · intro h' hsb hS'; dsimp only; exact wpAny_pure (h h' _ hsb hS')
end
end
section
open PySem PySem.Spec PyProof.Rows
set_option maxRecDepth 100000
theorem SetOk.at {prog : Program} {w : World} {h h' : Heap} {a : Addr} {b : Bool} {K : List Int} (x : SetOk prog w h a b K) (e : ∀ o, h.get? a = some o → h'.get? a = some o) : SetOk prog w h' a b K :=
  let ⟨o, es, ep, t, l, ho, r⟩ := x; ⟨o, es, ep, t, l, e o ho, r⟩
section
variable {prog : Program} {w : World} {A : Around} {R : Result → Shared → Prop} {I : Addr} {fp wr : List Addr} {G : Array GenState → Array GenState → Prop} {n : Nat} {P : Nat → Value → Prop} {St : Nat → Shared → Prop}
theorem update_loop (W : WalksS prog w A.in1 I fp wr G n P St) (S : Addr) (b : Bool) (hSf : S ∉ fp) (val : Nat → Int) (hval : ∀ i v, P i v → ∃ t, v = .int (val i) t) (hn : n ≤ 10) :
    ∀ (k i : Nat) (s : Shared), n - i = k → i ≤ n → St i s → SetOk prog w s.heap S b ((List.range i).map val) →
      (∀ s', Moved (S :: wr) G s s' → SetOk prog w s'.heap S b ((List.range n).map val) → R (.ok (.ret .none)) s') →
      codeAny (model prog w) A (.builtin "set.update.loop" ⟨[.ref S, .ref I], []⟩) R s := by
  have hSw : S ∉ wr := fun h => hSf (W.sub _ h)
  have hsub : ∀ b ∈ wr, b ∈ S :: wr := fun b hb => List.mem_cons_of_mem _ hb
  intro k
  induction k with
  | zero =>
    intro i s hk hi hst hS hR
    have hin : i = n := by omega
    subst hin
    refine codeAny_builtin PyProof.Rows.F.entry_set_update_loop ?_
    rw [Around.under_plainId PyProof.Rows.F.plain_set_update_loop _]
    show wpAny _ A.in1 (pyNext (.ref I) >>= _) _ _ s
    refine wpAny_bind (W.done s _ _ hst fun s' hm => ?_)
    show wpAny _ A.in1 (ret Value.none) _ _ s'
    exact wpAny_pure (hR s' (hm.mono hsub) (hS.at fun o ho => hm.heap S _ hSw ho))
  | succ k ih =>
    intro i s hk hi hst hS hR
    have hlt : i < n := by omega
    refine codeAny_builtin PyProof.Rows.F.entry_set_update_loop ?_
    rw [Around.under_plainId PyProof.Rows.F.plain_set_update_loop _]
    show wpAny _ A.in1 (pyNext (.ref I) >>= _) _ _ s
    refine wpAny_bind (W.item i s _ _ hlt hst fun v s' hP hst' hm => ?_)
    obtain ⟨t, rfl⟩ := hval i v hP
    have hS' := hS.at (h' := s'.heap) fun o ho => hm.heap S _ hSw ho
    show wpAny _ A.in1 (holding [Value.int (val i) t] (setAdd S (.int (val i) t)) >>= _) _ _ s'
    refine wpAny_bind (wpAny_holding ?_)
    unfold setAdd
    refine wpAny_holding ?_
    refine wpAny_bind ((intKind prog w).pyHash (k := val i) (intKind_is _ _ _ _) ?_)
    refine set_add (s := { s' with toks := s'.toks + 1 }) (K := (List.range i).map val) (k := val i) hS' (by rw [List.length_map, List.length_range]; omega) fun h' r hsb hS2 => ?_
    have hSi : SetOk prog w h' S b ((List.range (i + 1)).map val) := by
      rw [List.range_succ, List.map_append]; exact hS2
    refine wpAny_pure ⟨plainId_quiet PyProof.Rows.F.plain_set_update_loop _, ih (i + 1) _ (by omega) hlt (W.frame _ s' _ _ hst' (Nat.le_succ _) fun b hb o e => ?_) hSi fun s'' hm'' hS'' => ?_⟩
    · rw [hsb.2 b (fun h : b = S => hSf (by rw [← h]; exact hb))]; exact e
    · refine hR s'' (Moved.trans W.gtrans ((hm.mono hsub).then_heap (Nat.le_succ _) fun b o hb e => ?_) hm'') hS''
      rw [hsb.2 b (fun h : b = S => hb (by rw [h]; exact List.mem_cons_self))]; exact e
end
section
variable {prog : Program} {w : World} {A : Around} {E : Value → Shared → Prop} {s : Shared}
noncomputable abbrev setLed (w : World) : Bool := !w.params.followText "set-order"
noncomputable abbrev set0 (b : Bool) : Obj := { cls := .type "set", dict := none, data := .set #[] 0 (.fresh 0 0 b) }
theorem set_new (a : Value) {Q₁ : Value → Shared → Prop}
    (h : Q₁ (.ref s.heap.objs.size) { s with heap := s.heap.push (set0 (setLed w)) }) :
    codeAny (model prog w) A (.call (.builtin "set.__new__") ⟨[.type "set", a], []⟩) (wants Q₁ E) s := by
  refine codeAny_of_tree ?_
  show wpAny _ A.in1 (do checkBuiltinCall "set.__new__" ⟨[.type "set", a], []⟩; again (.builtin "set.__new__" ⟨[.type "set", a], []⟩)) _ _ s
  refine wpAny_bind (wpAny_of_eq (PySem.F.newCall_set_1 a) (wpAny_pure ⟨plainId_quiet PySem.F.plain_set_new _, codeAny_builtin PySem.F.entry_set_new ?_⟩))
  rw [Around.under_plainId PySem.F.plain_set_new _]
  unfold Builtin.«set.__new__» Builtin.Frozenset.newClass
  have hsub := sub_set_self
  obtain ⟨hp, g, d, tk, os⟩ := s
  dsimp only
  wp_walk
  refine wpAny_askSetting (wpAny_pure ?_)
  dsimp only
  simp only [newObj]
  refine wpAny_bind (wpAny_alloc (wpAny_pure ?_))
  exact wpAny_pure h
theorem set0_ok (b : Bool) (h : Heap) : SetOk prog w (h.push (set0 b)) h.objs.size b [] :=
  ⟨_, #[], 0, _, [], Heap.get?_push_size _ rfl, ⟨rfl, rfl, rfl⟩, rfl, rfl, List.nodup_nil, fun _ => Iff.rfl, Nat.le_refl _, rfl, rfl, List.Pairwise.nil, rfl, rfl, .inl ⟨rfl, by decide⟩⟩
set_option maxHeartbeats 3200000 in
theorem call_set {l : Addr} {items : Array Value} {ns : List Int} {Q : Value → Shared → Prop}
    (hh : A.handled = none) (hl : s.heap.IsList l items) (hi : IntsAre items.toList ns) (hn : items.size ≤ 10)
    (h : ∀ (h' : Heap) (tk : Nat), SetOk prog w h' s.heap.objs.size (setLed w) ns → (∀ b o, b < s.heap.objs.size → s.heap.get? b = some o → h'.get? b = some o) → Q (.ref s.heap.objs.size) { s with heap := h', toks := tk }) :
    wpAny (model prog w) A (call (.type "set") [.ref l]) Q E s := by
  have hvals : (List.range items.size).map (fun i => ns.getD i 0) = ns := by
    have e : items.size = ns.length := by rw [← Array.length_toList]; exact IntsAre.length hi
    rw [e]
    apply List.ext_getElem?
    intro i
    rw [List.getElem?_map]
    by_cases hlt : i < ns.length
    · rw [List.getElem?_range hlt, List.getElem?_eq_getElem hlt]
      simp [hlt]
    · rw [List.getElem?_eq_none (by rw [List.length_range]; omega), List.getElem?_eq_none (by omega)]; rfl
  obtain ⟨c, tl, hmro⟩ := PySem.F.called_set.mro
  have hmade := PySem.F.called_set.made
  have hsub := PySem.F.called_set.sub
  refine wpAny_call (codeAny_of_tree ?_)
  show wpAny _ _ (callAny (.type "set") _) _ _ _
  refine wpAny_pure ⟨Code.quiet_builtin _ (by decide +kernel), codeAny_builtin PySem.F.entry_type_call ?_⟩
  rw [Around.under_plain (weight_type_call_type "set" [.ref l] []) rfl]
  have h1 := PySem.F.called_set.notType
  have h2 := PySem.F.called_set.canCreate
  have hct := PySem.F.typeCall_set_1 (.ref l)
  repeat (any_goals (first | assumption | wp_step))
  refine codeAny_mono (set_new (.ref l) (E := E) (Q₁ := fun obj s₁ => obj = .ref s.heap.objs.size ∧ s₁ = { s with heap := s.heap.push (set0 (setLed w)) }) ⟨rfl, rfl⟩) fun r s₁ hr => ?_
  cases r with
  | error e => exact hr
  | ok fl =>
    cases fl with
    | ret obj =>
      obtain ⟨rfl, rfl⟩ := hr
      have hS : (s.heap.push (set0 (setLed w))).get? s.heap.objs.size = some (set0 (setLed w)) := Heap.get?_push_size _ rfl
      have hT : Shared.TypeIs { s with heap := s.heap.push (set0 (setLed w)) } (.ref s.heap.objs.size) "set" := ⟨_, hS, rfl⟩
      have hli := PySem.F.called_set.init.lookup
      have hbi := PySem.F.called_set.init.bind (.ref s.heap.objs.size)
      repeat (any_goals (first | assumption | wp_step))
      refine codeAny_mono (codeAny_call_builtin (R := wants (fun r s₂ => r = .none ∧ ∃ h' tk, s₂ = { s with heap := h', toks := tk } ∧
          SetOk prog w h' s.heap.objs.size (setLed w) ns ∧
          (∀ b o, b < s.heap.objs.size → s.heap.get? b = some o → h'.get? b = some o)) E) PySem.F.called_set.init.plain PySem.F.entry_set_init (check_set_init_1 hT ?_)) fun r₂ s₂ hr₂ => ?_
      · obtain ⟨ol, hol, hcl, nl, hdl⟩ := hl
        obtain ⟨ocls, odict, odata, oslots⟩ := ol
        simp only at hcl hdl
        subst hcl; subst hdl
        have hol' : (s.heap.push (set0 (setLed w))).get? l = some { cls := .type "list", dict := odict, data := .seq items nl, slots := oslots } := Heap.get?_push_of_some _ hol
        have hsls := PySem.F.sub_list_set
        have hslf := PySem.F.sub_list_frozenset
        have hne : (Value.type "list" == Value.type "dict") = false := by decide
        have hl1 : (s.heap.push (set0 (setLed w))).IsList l items := ⟨_, hol', rfl, nl, rfl⟩
        unfold Builtin.«set.__init__» noKeywords Builtin.Frozenset.updateFrom
        generalize hPI : pyIter = PI
        wp_walk
        subst hPI
        refine wpAny_pyIter_list hl1 ?_
        refine wpAny_bind (wpAny_runValue ?_)
        have hlS : l < s.heap.objs.size := Heap.lt_size hol
        have hh3 : A.in1.in1.in1.handled = none := by simp [hh]
        have hneI : l ≠ (s.heap.push (set0 (setLed w))).objs.size := by
          rw [Heap.size_push]; exact Nat.ne_of_lt (Nat.lt_succ_of_lt hlS)
        have hSf : s.heap.objs.size ∉ [(s.heap.push (set0 (setLed w))).objs.size, l] := by
          rw [Heap.size_push]; simp only [List.mem_cons, List.mem_singleton, List.not_mem_nil, or_false, not_or]
          exact ⟨Nat.ne_of_lt (Nat.lt_succ_self _), Nat.ne_of_gt hlS⟩
        have hval : ∀ (i : Nat) (v : Value), items[i]? = some v → ∃ t, v = .int ((fun i => ns.getD i 0) i) t := fun i v hv =>
          PyProof.Rows.IntsAre.int_at hi i v (by rw [Array.getElem?_toList]; exact hv)
        refine update_loop ((Walks.list hh3 _ l hneI items).toS) s.heap.objs.size (setLed w)
          hSf (fun i => ns.getD i 0) hval hn (items.size - 0) 0 _ (by omega) (Nat.zero_le _)
          ⟨⟨_, Heap.get?_push_size _ rfl, rfl, rfl⟩, (hl1.push _)⟩ ?hS0 ?hR
        case hS0 => exact (set0_ok (setLed w) s.heap).at fun o ho => Heap.get?_push_of_some _ ho
        case hR =>
          intro s' hm hS'
          obtain ⟨h', g', d', tk', os'⟩ := s'
          have eg : g' = s.gens := hm.gens
          have ed : d' = s.drawn := hm.drawn
          have eo : os' = s.os := hm.os
          subst eg; subst ed; subst eo
          show wpAny _ _ _ _ _ _
          refine wpAny_pure ?_
          show wpAny _ _ (ret Value.none) _ _ _
          rw [hvals] at hS'
          refine wpAny_pure ⟨rfl, h', tk', rfl, hS', fun b o hb e => ?_⟩
          have hb1 : b ≠ s.heap.objs.size := Nat.ne_of_lt hb
          have hb2 : b ≠ (s.heap.push (set0 (setLed w))).objs.size := by
            rw [Heap.size_push]; exact Nat.ne_of_lt (Nat.lt_succ_of_lt hb)
          exact hm.heap b o (by simp only [List.mem_cons, List.mem_singleton, List.not_mem_nil, or_false, not_or]; exact ⟨hb1, hb2⟩) (Heap.get?_push_of_some _ (Heap.get?_push_of_some _ e))
      · cases r₂ with
        | error e => exact hr₂
        | ok fl₂ =>
          cases fl₂ with
          | ret r =>
            obtain ⟨rfl, h', tk, rfl, hS', hk'⟩ := hr₂
            repeat (any_goals (first | assumption | wp_step))
            exact h _ _ hS' hk'
          | _ => exact hr₂.elim
    | _ => exact hr.elim
end
end
section
open PySem PySem.Spec PySem.Calls PyProof.Rows PySem.W
set_option maxRecDepth 100000
theorem slot_si_iter : Slot "set_iterator" "__iter__" "set_iterator.__iter__" :=
  .of (owner := "set_iterator") (n := "__iter__") (by rw [typeLookup_type, builtinLookup_eq_fast]; kernel_rfl) (by decide +kernel) (by decide +kernel) (by decide +kernel)
    (by first | exact .inl (by decide +kernel) | exact .inr (by decide +kernel)) (by rw [isSubtype_type]; kernel_rfl)
theorem slot_si_next : Slot "set_iterator" "__next__" "set_iterator.__next__" :=
  .of (owner := "set_iterator") (n := "__next__") (by rw [typeLookup_type, builtinLookup_eq_fast]; kernel_rfl) (by decide +kernel) (by decide +kernel) (by decide +kernel)
    (by first | exact .inl (by decide +kernel) | exact .inr (by decide +kernel)) (by rw [isSubtype_type]; kernel_rfl)
theorem entry_si_iter : entryFor table "set_iterator.__iter__" = some Builtin.«dict_keyiterator.__iter__» := entryFor_alias (id' := "dict_keyiterator.__iter__") (by kernel_rfl) rfl (by decide +kernel) (by kernel_rfl)
theorem entry_si_next : entryFor table "set_iterator.__next__" = some Builtin.«set_iterator.__next__» := entryFor_of_tree (by kernel_rfl)
theorem entry_set_iter : entryFor table "set.__iter__" = some Builtin.«frozenset.__iter__» := entryFor_alias (id' := "frozenset.__iter__") (by kernel_rfl) rfl (by decide +kernel) (by kernel_rfl)
theorem owner_si : Manifest.owners.lookup (String.ofList ['r', 'o', 't', 'a', 'r', 'e', 't', 'i', '_', 't', 'e', 's'].reverse) = some Manifest.sig_set_iterator := by kernel_rfl
theorem args_si_iter (a : Value) : argsOk "set_iterator.__iter__" ⟨[a], []⟩ := by
  unfold argsOk; rw [signature?_of (id := "set_iterator.__iter__") (n := ['_', '_', 'r', 'e', 't', 'i', '_', '_']) (o := ['r', 'o', 't', 'a', 'r', 'e', 't', 'i', '_', 't', 'e', 's']) (by kernel_rfl) owner_si]; kernel_rfl
theorem args_si_next (a : Value) : argsOk "set_iterator.__next__" ⟨[a], []⟩ := by
  unfold argsOk; rw [signature?_of (id := "set_iterator.__next__") (n := ['_', '_', 't', 'x', 'e', 'n', '_', '_']) (o := ['r', 'o', 't', 'a', 'r', 'e', 't', 'i', '_', 't', 'e', 's']) (by kernel_rfl) owner_si]; kernel_rfl
theorem pick_go {α : Type} (next : Nat → Nat) : ∀ (fuel k : Nat) (left : List α) (out : Array α), fuel = left.length → (pickOrder.go next fuel k left out).toList.Perm (out.toList ++ left)
  | 0, k, left, out, h => by
    have : left = [] := List.length_eq_zero_iff.mp h.symm
    subst this
    unfold pickOrder.go; simp
  | fuel + 1, k, left, out, h => by
    have hi : next k % left.length < left.length := Nat.mod_lt _ (by omega)
    unfold pickOrder.go
    rw [List.getElem?_eq_getElem hi]
    dsimp only
    refine (pick_go next fuel (k + 1) _ _ (by rw [List.length_eraseIdx_of_lt hi]; omega)).trans ?_
    rw [Array.toList_push, List.append_assoc]
    refine List.Perm.append_left _ ?_
    have e : left = left.take (next k % left.length) ++ left[next k % left.length] :: left.drop (next k % left.length + 1) := by
      rw [← List.drop_eq_getElem_cons hi, List.take_append_drop]
    rw [List.eraseIdx_eq_take_drop_succ]
    conv => rhs; rw [e]
    rw [List.singleton_append]
    exact List.perm_middle.symm
theorem pick_perm {α : Type} (next : Nat → Nat) (xs : Array α) : (pickOrder next xs).toList.Perm xs.toList := by
  have := pick_go next xs.size 0 xs.toList #[] (by simp)
  simpa [pickOrder] using this
/-- the set and all that is known of it -/
noncomputable def SetAt (h : Heap) (a : Addr) (es : Array (Int × Value)) (ep : Nat) (t : SetTable) : Prop := ∃ o, h.get? a = some o ∧ o.ExactSet ∧ o.data = .set es ep t
noncomputable def SetIt (h : Heap) (it a : Addr) (slot i n ep : Nat) : Prop := ∃ o, h.get? it = some o ∧ o.cls = .type "set_iterator" ∧ o.data = .fields #[.int (slot : Int) 0, .int (i : Int) 0, .ref a, .int (n : Int) 0, .int (ep : Int) 0]
theorem SetAt.at {h h' : Heap} {a : Addr} {es : Array (Int × Value)} {ep : Nat} {t : SetTable} (x : SetAt h a es ep t) (e : ∀ o, h.get? a = some o → h'.get? a = some o) : SetAt h' a es ep t := let ⟨o, ho, r⟩ := x; ⟨o, e o ho, r⟩
theorem SetIt.at {h h' : Heap} {it a : Addr} {slot i n ep : Nat} (x : SetIt h it a slot i n ep) (e : ∀ o, h.get? it = some o → h'.get? it = some o) : SetIt h' it a slot i n ep := let ⟨o, ho, r⟩ := x; ⟨o, e o ho, r⟩
theorem SetIt.typeIs {s : Shared} {it a : Addr} {slot i n ep : Nat} (x : SetIt s.heap it a slot i n ep) : s.TypeIs (.ref it) "set_iterator" := let ⟨o, ho, hc, _⟩ := x; ⟨o, ho, hc⟩
noncomputable def orderOf (w : World) (a : Addr) (es : Array (Int × Value)) (ep : Nat) : Array (Int × Value) := if w.params.followText "set-order" = true then pickOrder (w.params.setOrder a ep) es else es
theorem orderOf_perm (w : World) (a : Addr) (es : Array (Int × Value)) (ep : Nat) : (orderOf w a es ep).toList.Perm es.toList := by
  unfold orderOf; split
  · exact pick_perm _ _
  · exact .rfl
section
variable {prog : Program} {w : World} {A : Around} {E : Value → Shared → Prop} {s : Shared} {a it : Addr} {es : Array (Int × Value)} {ep : Nat} {t : SetTable}
theorem bytext {Q : Bool → Shared → Prop} (h : Q (w.params.followText "set-order") s) : wpAny (model prog w) A setsByText Q E s := by
  unfold setsByText
  exact wpAny_bind (wpAny_askSetting (wpAny_pure h))
theorem pyIter_set (hS : SetAt s.heap a es ep t) (hk : TabOk (setLed w) es.size t) {Q : Value → Shared → Prop}
    (h : Q (.ref s.heap.objs.size) { s with heap := s.heap.push { cls := .type "set_iterator", data := .fields #[.int ((0 : Nat) : Int) 0, .int ((0 : Nat) : Int) 0, .ref a, .int (es.size : Int) 0, .int (ep : Int) 0] } }) :
    wpAny (model prog w) A (pyIter (.ref a)) Q E s := by
  obtain ⟨o, ho, hex, hd⟩ := id hS
  have hT : s.TypeIs (.ref a) "set" := ⟨o, ho, hex.1⟩
  have hf := hk.fits
  refine wpAny_pyIter_slot hT PySem.F.slot_set_iter (wpAny_call_entry PySem.F.slot_set_iter hT entry_set_iter ?_ (PySem.F.args_set_iter_1 _))
  unfold Builtin.«frozenset.__iter__» Builtin.Frozenset.slot0 slotArgs
  simp only [List.isEmpty_nil, Bool.not_true, Bool.false_eq_true, ↓reduceIte, bind_assoc, List.length_nil, bne_self_eq_false]
  unfold Builtin.Frozenset.addrOf Builtin.Frozenset.sizeOf
  refine wpAny_bind (wpAny_pure ?_)
  try dsimp only
  refine wpAny_bind (wpAny_pure ?_)
  refine wpAny_bind (wpAny_bind (wpAny_setEntries_of ho hd hf (wpAny_pure ?_)))
  refine wpAny_bind ?_
  unfold setDrawn
  refine wpAny_bind (wpAny_setState_of ho hd hf ?_)
  dsimp only
  refine wpAny_bind (bytext ?_)
  refine wpAny_pure ?_
  refine wpAny_ite_split (fun hc => ?_) (fun _ => ?_)
  · exfalso
    have hc' : (!w.params.followText "set-order" && (!t.plain && decide (es.size > 1))) = true := hc
    rw [hk.plain] at hc'
    simp at hc'
  · refine wpAny_bind (wpAny_pure ?_)
    refine wpAny_bind (wpAny_setEpoch_of ho hd hf ?_)
    refine wpAny_bind ?_
    refine wpAny_newObj_type ?_ (by size_fits)
    exact wpAny_pure ⟨_, rfl, "set_iterator", _, ⟨_, Heap.get?_push_size _ rfl, rfl⟩, slot_si_next.lookup, h⟩
theorem pyIter_si {i n ep slot : Nat} {Q : Value → Shared → Prop} (hit : SetIt s.heap it a slot i n ep) (h : Q (.ref it) s) : wpAny (model prog w) A (pyIter (.ref it)) Q E s := by
  refine wpAny_pyIter_slot hit.typeIs slot_si_iter (wpAny_call_entry slot_si_iter hit.typeIs entry_si_iter ?_ (args_si_iter _))
  show wpAny _ _ (ret (.ref it)) _ _ s
  exact wpAny_pure ⟨_, rfl, "set_iterator", _, hit.typeIs, slot_si_next.lookup, h⟩
/-- what the iterator reads next -/
theorem setNext_of (hS : SetAt s.heap a es ep t) (hk : TabOk (setLed w) es.size t) (slot i : Nat) (hb : w.params.followText "set-order" = false → SetTable.below t.place slot = i) {Q : Option (Value × Nat) → Shared → Prop}
    (h : ∀ next, (w.params.followText "set-order" = false → i < es.size → SetTable.below t.place next = i + 1) → Q ((orderOf w a es ep)[i]?.map fun e => (e.2, next)) s) :
    wpAny (model prog w) A (setNext a slot i ep) Q E s := by
  obtain ⟨o, ho, hex, hd⟩ := id hS
  have hf := hk.fits
  unfold setNext
  refine wpAny_bind (wpAny_setState_of ho hd hf ?_)
  dsimp only
  refine wpAny_bind (bytext ?_)
  cases hT : w.params.followText "set-order" with
  | true =>
    simp only [if_true]
    rw [if_neg (by simp)]
    unfold setWalk
    refine wpAny_bind ?_
    refine wpAny_bind (wpAny_setState_of ho hd hf ?_)
    dsimp only
    refine wpAny_bind (bytext ?_)
    rw [hT]
    simp only [if_true]
    refine wpAny_bind (wpAny_askSetting (wpAny_pure ?_))
    refine wpAny_pure ?_
    have := h slot (fun hx => by rw [hT] at hx; cases hx)
    unfold orderOf at this
    rw [if_pos hT] at this
    exact this
  | false =>
    simp only [Bool.false_eq_true, if_false]
    refine wpAny_ite_split (fun hc => ?_) (fun _ => ?_)
    · exfalso
      have hc' : (!t.plain && decide (es.size > 1)) = true := hc
      rw [hk.plain] at hc'
      simp at hc'
    · refine wpAny_bind ?_
      show wpAny _ _ (if (!t.led && !es.isEmpty) = true then unsupported _ else pure ()) _ _ _
      have hl : t.led = true := by rw [hk.led]; unfold setLed; rw [hT]; rfl
      rw [if_neg (by rw [hl]; simp)]
      refine wpAny_pure ?_
      refine wpAny_pure ?_
      have hi := hb hT
      rw [hi]
      have eo : orderOf w a es ep = es := by unfold orderOf; rw [hT]; simp
      rw [eo] at h
      by_cases hlt : i < es.size
      · have hp : i < t.place.size := by rw [hk.size]; exact hlt
        have hn : SetTable.below t.place (t.place[i] + 1) = i + 1 := by
          have hv : t.place.getD i 0 = t.place[i] := by simp [Array.getD, hp]
          refine below_at hk.rise _ _ (by omega) (fun k hkl => ?_) (fun k hk1 hk2 => ?_)
          · have := rise_le hk.rise (show k ≤ i by omega) hp
            omega
          · have := rise_lt hk.rise (show i < k by omega) hk2
            omega
        have := h (t.place[i] + 1) (fun _ _ => hn)
        rw [Array.getElem?_eq_getElem hlt] at this ⊢
        rw [Array.getElem?_eq_getElem hp]
        exact this
      · have := h 0 (fun _ hx => absurd hx hlt)
        rw [Array.getElem?_eq_none (by omega)] at this ⊢
        exact this
theorem hash_len : ("set.__len__" : String) = "set.__len__" := rfl
theorem hint_set {r : Addr} {Q : Bool → Shared → Prop} (hT : s.TypeIs (.ref r) "set") (h : Q false s) : wpAny (model prog w) A (Builtin.List.listLengthHint (.ref r)) Q E s := by
  unfold Builtin.List.listLengthHint
  refine wpAny_bind (wpAny_specialOf hT PySem.F.slot_set_len.lookup ?_)
  generalize hid : ("set.__len__" : String) = id0
  wp_delta
  rw [show splitId id0 = some ("set", "__len__") from by subst hid; decide +kernel]
  subst hid
  refine wpAny_bind (wpAny_isInstance (T := "set") (b := true) hT (by rw [isSubtype_type]; kernel_rfl) ?_)
  refine wpAny_ite_split (fun hab => absurd hab (by decide)) (fun _ => ?_)
  refine wpAny_ite_split (fun _ => ?_) (fun hab => absurd (by decide +kernel) hab)
  refine wpAny_bind (wpAny_typeOf hT ?_)
  exact wpAny_pure h
theorem next_item {slot i : Nat} {x : Value} {k : Int} {Q : Option Value → Shared → Prop} (hit : SetIt s.heap it a slot i es.size ep) (hS : SetAt s.heap a es ep t) (hk : TabOk (setLed w) es.size t) (hb : w.params.followText "set-order" = false → SetTable.below t.place slot = i)
    (hx : (orderOf w a es ep)[i]? = some (k, x)) (hlt : i < es.size)
    (hQ : ∀ h' slot', SetIt h' it a slot' (i + 1) es.size ep → (w.params.followText "set-order" = false → SetTable.below t.place slot' = i + 1) → Heap.SameBut it s.heap h' → Q (some x) { s with heap := h' }) :
    wpAny (model prog w) A (pyNext (.ref it)) Q E s := by
  obtain ⟨o, ho, hc, hd⟩ := id hit
  obtain ⟨oS, hoS, hexS, hdS⟩ := id hS
  unfold pyNext
  refine wpAny_bind (wpAny_attempt (wpAny_callSpecial?_slot (name := Str.ofString "__next__") hit.typeIs slot_si_next
    (wpAny_call_entry slot_si_next hit.typeIs entry_si_next ?_ (args_si_next _))))
  unfold Builtin.«set_iterator.__next__» slotArgs
  simp only [List.isEmpty_nil, Bool.not_true, Bool.false_eq_true, ↓reduceIte, bind_assoc, List.length_nil, bne_self_eq_false]
  refine wpAny_bind (wpAny_pure ?_)
  try dsimp only
  refine wpAny_bind (wpAny_fieldsOf ho hd ?_)
  dsimp only
  refine wpAny_bind (wpAny_setEntries_of hoS hdS hk.fits ?_)
  rw [if_neg (by simp)]
  simp only [Int.toNat_natCast]
  refine wpAny_bind (setNext_of hS hk slot i hb fun next hnext => ?_)
  rw [hx]
  dsimp only [Option.map_some]
  refine wpAny_bind (wpAny_setField ho hd (by simp) ?_)
  have ho2 := Heap.get?_update_self (Obj.mapFields (·.setIfInBounds 0 (rawInt (next : Int)))) ho (Obj.isFreed_of_fields (Obj.data_mapFields hd _))
  have hd2 := Obj.data_mapFields hd (·.setIfInBounds 0 (rawInt (next : Int)))
  refine wpAny_bind (wpAny_setField ho2 hd2 (by simp) ?_)
  have ho3 := Heap.get?_update_self (Obj.mapFields (·.setIfInBounds 1 (rawInt ((i : Int) + 1)))) ho2 (Obj.isFreed_of_fields (Obj.data_mapFields hd2 _))
  have hd3 := Obj.data_mapFields hd2 (·.setIfInBounds 1 (rawInt ((i : Int) + 1)))
  refine wpAny_pure ⟨_, rfl, wpAny_pure (hQ _ next ⟨_, ho3, (Obj.cls_mapFields ..).trans ((Obj.cls_mapFields ..).trans hc), ?_⟩ (fun hT => hnext hT hlt) ((Heap.SameBut.update ..).trans (Heap.SameBut.update ..)))⟩
  rw [hd3]; simp [rawInt]
theorem next_end {slot : Nat} {Q : Option Value → Shared → Prop} (hh : A.handled = none) (hit : SetIt s.heap it a slot es.size es.size ep) (hS : SetAt s.heap a es ep t) (hk : TabOk (setLed w) es.size t) (hb : w.params.followText "set-order" = false → SetTable.below t.place slot = es.size)
    (hQ : ∀ h', Heap.ExtBut it s.heap h' → Q none { s with heap := h' }) :
    wpAny (model prog w) A (pyNext (.ref it)) Q E s := by
  obtain ⟨o, ho, hc, hd⟩ := id hit
  obtain ⟨oS, hoS, hexS, hdS⟩ := id hS
  unfold pyNext
  refine wpAny_bind (wpAny_attempt (wpAny_callSpecial?_slot (name := Str.ofString "__next__") hit.typeIs slot_si_next
    (wpAny_call_entry slot_si_next hit.typeIs entry_si_next ?_ (args_si_next _))))
  unfold Builtin.«set_iterator.__next__» slotArgs
  simp only [List.isEmpty_nil, Bool.not_true, Bool.false_eq_true, ↓reduceIte, bind_assoc, List.length_nil, bne_self_eq_false]
  refine wpAny_bind (wpAny_pure ?_)
  try dsimp only
  refine wpAny_bind (wpAny_fieldsOf ho hd ?_)
  dsimp only
  refine wpAny_bind (wpAny_setEntries_of hoS hdS hk.fits ?_)
  rw [if_neg (by simp)]
  simp only [Int.toNat_natCast]
  refine wpAny_bind (setNext_of hS hk slot es.size hb fun next hnext => ?_)
  have hsz : (orderOf w a es ep).size = es.size := by
    rw [← Array.length_toList, (orderOf_perm w a es ep).length_eq, Array.length_toList]
  rw [Array.getElem?_eq_none (by omega)]
  dsimp only [Option.map_none]
  refine wpAny_bind (wpAny_setField ho hd (by simp) ?_)
  refine wpAny_bind ?_
  simp only [newExc, newTuple]
  refine wpAny_bind (wpAny_newObj_type ?_ (by size_fits))
  refine wpAny_bind (m := firstArgMember _ _) (wpAny_of_eq (a := Value.none) (by first | rfl | (simp only [firstArgMember]; rfl)) ?_)
  refine wpAny_newObj_type ?_ (by size_fits)
  simp only [raiseNew]
  refine wpAny_bind (wpAny_handled ?_)
  rw [show A.in1.handled = none from hh]
  refine wpAny_bind (wpAny_pure (wpAny_throw ?_))
  refine wpAny_bind (wpAny_isInstance (T := "StopIteration") (b := true) ⟨_, Heap.get?_push_size _ rfl, rfl⟩ isSubtype_stop ?_)
  exact wpAny_pure (hQ _ (((Heap.SameBut.update ..).extBut.push _).push _))
theorem walks_set (hh : A.handled = none) (I d : Addr) (hne : d ≠ I) (es : Array (Int × Value)) (ep : Nat) (t : SetTable) (hk : TabOk (setLed w) es.size t) :
    Walks prog w A I [I, d] [I] es.size (fun i v => ∃ k, (orderOf w d es ep)[i]? = some (k, v)) (fun i h => SetAt h d es ep t ∧ ∃ slot, SetIt h I d slot i es.size ep ∧ (w.params.followText "set-order" = false → SetTable.below t.place slot = i)) where
  sub := fun b hb => by simp at hb; simp [hb]
  frame := fun _ _ _ st hk => by
    obtain ⟨s1, slot, s2, s3⟩ := st
    exact ⟨s1.at fun o e => hk d (by simp) o e, slot, s2.at fun o e => hk I (by simp) o e, s3⟩
  item := fun i s Q E hi st hQ => by
    obtain ⟨s1, slot, s2, s3⟩ := st
    have hsz : (orderOf w d es ep).size = es.size := by
      rw [← Array.length_toList, (orderOf_perm w d es ep).length_eq, Array.length_toList]
    obtain ⟨⟨k, x⟩, hx⟩ : ∃ p, (orderOf w d es ep)[i]? = some p := ⟨(orderOf w d es ep)[i], by simp [hsz, hi]⟩
    refine next_item s2 s1 hk s3 hx hi fun h' slot' hit' hb' hs' => ?_
    exact hQ x h' s.toks ⟨k, hx⟩ ⟨s1.at fun o e => hs'.extBut d o hne e, slot', hit', hb'⟩ fun b o hb e => hs'.extBut b o (fun h => hb (by simp [h])) e
  done := fun s Q E st hQ => by
    obtain ⟨s1, slot, s2, s3⟩ := st
    exact next_end hh s2 s1 hk s3 fun h' he' => hQ h' s.toks fun b o hb e => he' b o (fun h => hb (by simp [h])) e
  self := fun _ _ _ _ st hQ => by
    obtain ⟨s1, slot, s2, s3⟩ := st
    exact pyIter_si s2 hQ
theorem src_set {d : Addr} {es : Array (Int × Value)} {ep : Nat} {t : SetTable} (hk : TabOk (setLed w) es.size t) :
    KdlSrc prog w "set" d d es.size (fun i v => ∃ k, (orderOf w d es ep)[i]? = some (k, v)) (fun h => SetAt h d es ep t) where
  type := fun _ hm => let ⟨o, ho, hex, _⟩ := hm; ⟨o, ho, hex.1⟩
  there := fun _ hm => let ⟨o, ho, _⟩ := hm; ⟨Heap.lt_size ho, Heap.lt_size ho⟩
  keep := fun _ _ hm hk => hm.at fun o e => hk d (.inl rfl) o e
  notList := by decide
  notTuple := by decide
  hint := fun _ _ _ _ hm hq => by
    obtain ⟨o, ho, hex, _⟩ := hm
    exact hint_set ⟨o, ho, hex.1⟩ hq
  iter := fun _ s hh hm => by
    have hlt : d < s.heap.objs.size := by obtain ⟨o, ho, _⟩ := hm; exact Heap.lt_size ho
    exact ⟨_, _, (fun _ _ hq => pyIter_set hm hk hq), walks_set hh _ d (Nat.ne_of_lt hlt) es ep t hk, hm.at fun o e => Heap.get?_push_of_some _ e, 0, ⟨_, Heap.get?_push_size _ rfl, rfl, rfl⟩, fun _ => below_at hk.rise _ _ (Nat.zero_le _) (fun _ h => by omega) (fun _ _ _ => Nat.zero_le _)⟩
end
end
section
open PySem PySem.Spec PySem.Calls PyProof.Rows PySem.W
/-- a set of ints as an object -/
noncomputable def SetObj (prog : Program) (w : World) (o : Obj) (K : List Int) : Prop :=
  ∃ es ep t, ∃ l : List (Int × Tok), o.ExactSet ∧ o.data = .set es ep t ∧ es.toList = l.map (elOf prog w) ∧ (l.map (·.1)).Nodup ∧ (∀ k, k ∈ l.map (·.1) ↔ k ∈ K) ∧ l.length ≤ K.length ∧ TabOk (setLed w) es.size t
section
variable {prog : Program} {w : World} {A : Around} {E : Value → Shared → Prop} {s : Shared} {h₀ : Heap} {L : Addr} {m : Str → Option Value} {news : List (Addr × Obj)} {Q : Value → Shared → Prop}
theorem set_of_list {l : Addr} {vs : List Value} {ns : List Int} (hh : A.handled = none) (F : Fr h₀ L s.heap m) (N : News h₀ L s.heap news) (hl : s.heap.IsList l vs.toArray) (hi : IntsAre vs ns) (hn : ns.length ≤ 10)
    (h : ∀ D o h' tk, SetObj prog w o ns → Fr h₀ L h' m → News h₀ L h' ((D, o) :: news) → (∀ p ∈ news, @LT.lt Nat _ p.1 D) → Q (.ref D) { s with heap := h', toks := tk }) :
    wpAny (model prog w) A (call (.type "set") [.ref l]) Q E s := by
  have hlen := IntsAre.length hi
  refine call_set (items := vs.toArray) (ns := ns) hh hl (by simpa using hi) (by rw [List.size_toArray]; omega) fun h' tk hS hk => ?_
  obtain ⟨o, es, ep, t, l, ho, r⟩ := hS
  obtain ⟨oL, _, _, hL, _⟩ := F.ns
  have hLlt : L < s.heap.objs.size := Heap.lt_size hL
  refine h _ o h' tk ⟨es, ep, t, l, r⟩ ⟨F.ns.at' fun o' e => hk L o' hLlt e, fun b o' e => hk b o' (Heap.lt_size (F.keep b o' e)) (F.keep b o' e), F.above⟩ (fun p hp => ?_) (fun p hp => Heap.lt_size (N p hp).1)
  rcases List.mem_cons.mp hp with rfl | hp
  · refine ⟨ho, Nat.ne_of_gt hLlt, ?_⟩
    cases hq : h₀.get? s.heap.objs.size with
    | none => rfl
    | some o' => exact absurd (Heap.lt_size (F.keep _ _ hq)) (Nat.lt_irrefl _)
  · exact ⟨hk _ _ (Heap.lt_size (N p hp).1) (N p hp).1, (N p hp).2.1, (N p hp).2.2⟩
theorem ints_of : ∀ (vs : List Value) (l : List (Int × Value)) , vs = l.map (·.2) → (∀ e ∈ l, ∃ q : Int × Tok, e = elOf prog w q) → IntsAre vs (l.map fun e => (elBack e).1)
  | _, [], h, _ => by subst h; exact .nil
  | _, e :: r, h, he => by
    subst h
    obtain ⟨q, rfl⟩ := he e List.mem_cons_self
    exact .cons _ _ (ints_of _ r rfl fun x hx => he x (List.mem_cons_of_mem _ hx))
theorem sorted_set {D : Addr} {o : Obj} {K : List Int} (hh : A.handled = none) (F : Fr h₀ L s.heap m) (N : News h₀ L s.heap news) (hm : (D, o) ∈ news) (hO : SetObj prog w o K) (hn : K.length ≤ 10)
    (h : ∀ B vs' ns' c h' tk, Fr h₀ L h' m → News h₀ L h' ((B, listOf (List.toArray vs') c) :: news) → (∀ q ∈ news, @LT.lt Nat _ q.1 B) → IntsAre vs' ns' → ns'.Nodup → (∀ k, k ∈ ns' ↔ k ∈ K) → ns'.Pairwise (· ≤ ·) → ns'.length ≤ K.length → Q (.ref B) { s with heap := h', toks := tk }) :
    wpAny (model prog w) A (call (.builtin "sorted") [.ref D]) Q E s := by
  obtain ⟨es, ep, t, l, hex, hd, hes, hnd, hmem, hlen, htab⟩ := hO
  have hsz : es.size = l.length := by rw [← Array.length_toList, hes, List.length_map]
  refine kdu_sorted (src_set (prog := prog) (d := D) (ep := ep) htab) hh F N ⟨o, (N _ hm).1, hex, hd⟩ (by rw [sizeLine_eq]; omega) fun B h' tk vs F' N' l1 hl hv => ?_
  have hp := orderOf_perm w D es ep
  have hvs : vs = (orderOf w D es ep).toList.map (·.2) := by
    apply List.ext_getElem?
    intro j
    have e2 : (orderOf w D es ep).toList[j]? = (orderOf w D es ep)[j]? := Array.getElem?_toList
    rw [List.getElem?_map, e2]
    by_cases hj : j < vs.length
    · obtain ⟨k, hk⟩ := hv j _ (List.getElem?_eq_getElem hj)
      rw [List.getElem?_eq_getElem hj, hk]; rfl
    · have hos : (orderOf w D es ep).size = es.size := by rw [← Array.length_toList, hp.length_eq, Array.length_toList]
      rw [List.getElem?_eq_none (by omega), Array.getElem?_eq_none (by omega)]; rfl
  have hel : ∀ e ∈ (orderOf w D es ep).toList, ∃ q : Int × Tok, e = elOf prog w q := fun e he => by
    have := hp.mem_iff.mp he
    rw [hes] at this
    obtain ⟨q, _, rfl⟩ := List.mem_map.mp this
    exact ⟨q, rfl⟩
  have hI := ints_of vs _ hvs hel
  have hpK : ((orderOf w D es ep).toList.map fun e => (elBack e).1).Perm (l.map (·.1)) := by
    have h1 := hp.map fun e => (elBack e).1
    rw [hes, List.map_map] at h1
    exact h1
  have hln := hpK.length_eq
  rw [List.length_map, List.length_map] at hln
  refine ksk_lsort (D := B) (its := vs.toArray) (n := 0) (news := (B, listOf vs.toArray 0) :: news) (news' := fun o => (B, o) :: news) F' N' (fun o => .head fun p hp => Nat.ne_of_lt (l1 p hp)) (by simp) hI (by rw [List.length_map, hln]; omega) fun vs' ns' c h2 F2 N2 hI2 hl2 hp2 hs2 _ => ?_
  have hpp := hp2.trans hpK
  exact h B vs' ns' c h2 tk F2 N2 l1 hI2 (hpp.nodup_iff.mpr hnd) (fun k => hpp.mem_iff.trans (hmem k)) hs2 (by rw [hpp.length_eq, List.length_map]; exact hlen)
end
end
section
section
set_option inductive.autoPromoteIndices false in
set_option autoImplicit false in
inductive DrawnRet (d : Addr)  : Value → List (Addr × Obj) → Prop
  | mk (ds' : List Value) (es' : List Int) (n' : Nat) (c0 : IntsAre ds' es') (c1 : es'.length = 9) : DrawnRet d (.ref d) ([(d, W.listOf ds'.toArray n')])
set_option autoImplicit false in
theorem DrawnRet.all {d : Addr} {P : Value → List (Addr × Obj) → Prop} (h : ∀ (ds' : List Value) (es' : List Int) (n' : Nat) (c0 : IntsAre ds' es') (c1 : es'.length = 9), P (.ref d) ([(d, W.listOf ds'.toArray n')])) : ∀ (x0 : Value) (x1 : List (Addr × Obj)), DrawnRet d x0 x1 → P x0 x1 :=
  fun _ _ t => DrawnRet.rec (motive := fun x0 x1 _ => P x0 x1) h t
set_option inductive.autoPromoteIndices false in
set_option autoImplicit false in
inductive DrawnI (g : Heap) (L1 : Addr) (s : Shared) (ns : List Int) (ws : List Value) (e it D d : Addr)  : Nat → Shared → Prop
  | mk (i : Nat) (o1 : Obj) (old : Value) (ds : List Value) (es : List Int) (h : Heap) (tk : Nat) (u : Str → Option Value) (n : Nat) (c0 : i ≤ (ns.take 60).length) (c1 : IsIt o1 D i) (c2 : IntsAre ds es) (c3 : es.length = 9) (c4 : Fr g L1 h (fun z => if z = Str.ofString "drawn" then some (.ref d) else u z)) (c5 : News g L1 h [(e, enumObj it (i : Int) old), (it, o1), (D, W.listOf ws.toArray 0), (d, W.listOf ds.toArray n)]) : DrawnI g L1 s ns ws e it D d ((ns.take 60).length - i) ({ s with heap := h, toks := tk })
set_option autoImplicit false in
theorem DrawnI.all {g : Heap} {L1 : Addr} {s : Shared} {ns : List Int} {ws : List Value} {e : Addr} {it : Addr} {D : Addr} {d : Addr} {P : Nat → Shared → Prop} (h : ∀ (i : Nat) (o1 : Obj) (old : Value) (ds : List Value) (es : List Int) (h : Heap) (tk : Nat) (u : Str → Option Value) (n : Nat) (c0 : i ≤ (ns.take 60).length) (c1 : IsIt o1 D i) (c2 : IntsAre ds es) (c3 : es.length = 9) (c4 : Fr g L1 h (fun z => if z = Str.ofString "drawn" then some (.ref d) else u z)) (c5 : News g L1 h [(e, enumObj it (i : Int) old), (it, o1), (D, W.listOf ws.toArray 0), (d, W.listOf ds.toArray n)]), P ((ns.take 60).length - i) ({ s with heap := h, toks := tk })) : ∀ (x0 : Nat) (x1 : Shared), DrawnI g L1 s ns ws e it D d x0 x1 → P x0 x1 :=
  fun _ _ t => DrawnI.rec (motive := fun x0 x1 _ => P x0 x1) h t
theorem words_drawn_spec : True := by
  w_top off
  k_with_none
  k_with "mine ktr_room" => ((try simp only [depth_under_make, depth_under_kw, depth_in1, depth_deeper, depth_caller]); (try dsimp only [ktrTop]); first | decide | omega)
  k_with "mine ktr_units" => ((try simp only [units_in1, units_deeper, Around.mark_units, units_caller]); (try dsimp only [ktrTop]); first | (rw [cLine_is]; decide) | omega)
  k_with "mine call by" => ((case k1 => k_asm); (case k2 => kn_code); (case k3 => k_asm); (case k4 => k_asm); (case k5 => (refine' News.subs ?k51 ?k52; (case k51 => k_asm); (case k52 => ((repeat (refine List.forall_mem_cons.mpr (And.intro (by k_mem) ?_))); exact fun _ h => nomatch h)))); (case k6 => k_asm); (case k7 => first | exact rfl | assumption); (case k8 => ktr_room); (case k9 => ktr_units); (case kp => first | exact trivial | assumption))
  k_with "binaryOp Add str str" => (refine PyProof.Rows.add_str (hsz := ?hszq) ?_; (case hszq => assumption); intro _ _)
  k_with "call builtin:hex" => (refine P.hex_of_int ?_ (hsz := ?hszq); (case hszq => assumption))
  k_with "call builtin:list.append" => (k_here; (with_reducible show wpAny _ _ (call (Value.builtin _) [Value.ref _, _]) _ _ _); k_dflt (refine' append_K ?k1 ?k2 ?k3 ?_ ?z; (case k1 => k_asm); (case k2 => k_asm); (case k3 => k_upd); (case z => assumption); k_whole); intro h9w F9w N9w; (try k_sweep))
  k_with "call builtin:dict.get" => (k_here; k_dflt (refine' flag_get ?k1 ?k2 ?k3 ?k4 ?_; (case k1 => k_asm); (case k2 => exact Fr.keep (by with_reducible assumption)); (case k3 => assumption); (case k4 => assumption)); intro t9w tk9w)
  k_with "exec For Name Call cons nil" => (refine for_raw ?_)
  k_with "exec For Name Call cons cons" => (refine for_raw ?_)
  k_with "exec For Name Name cons nil" => (refine for_raw ?_)
  k_with "exec For Name Subscript cons nil" => (refine for_raw ?_)
  k_with "exec While Name cons nil" => (refine Stop.out ?_)
  k_with "subscriptTail" => (k_here; (with_reducible show wpAny _ _ (subscriptTail _ (Expr.Slice _ _ none _) (Value.bytes _ _) (Value.ref _)) _ _ _); (with_reducible rename Fr _ _ _ _ => F9w); (with_reducible rename News _ _ _ _ => N9w); (refine KBy.slice_N (s := ⟨_, _, _, _, _⟩) F9w N9w (by constructor) (by constructor) (by assumption) (by assumption) ?_); intro _ _ _ _ _)
  k_with "binaryOp Add bytes bytes" => (k_here; (with_reducible show wpAny _ _ (binaryOp Operator.Add (Value.bytes _ _) (Value.bytes _ _)) _ _ _); (refine KBy.add_bytes (by assumption) ?_); intro _ _)
  k_with "mine enter" => (k_dflt (refine' enter_plain ?k1 ?k2 ?k3 ?k4 ?k5 ?kA ?kF ?kK ?k6 ?k7 ?k8 ?k9 ?kB ?hr ?_ ?c2 ?c3 ?c4 ?c5; (case kA => exact rfl); (case kF => exact rfl); (case kK => assumption); (case k1 => k_asm); (case k2 => k_asm); (case k3 => k_asm); (case k4 => k_asm); (case k5 => k_asm); (case k6 => k_is); (case k7 => k_is); (case k8 => ktr_room); (case k9 => exact BindsTo.of_eq rfl); (case c5 => decide); (case kB => exact locs rfl); (case hr => assumption); (case c2 => exact rfl); (case c3 => exact rfl); (case c4 => exact rfl); k_whole))
  k_with "mine cells" => (k_dflt (refine' enter_cells ?k1 ?k2 ?k3 ?k4 ?k5 ?kA ?kF ?kK ?k6 ?k7 ?k8 ?k9 ?kB ?kD ?hr ?_ ?c2 ?c3 ?c4; (case kA => exact rfl); (case kF => exact rfl); (case kK => assumption); (case k1 => k_asm); (case k2 => k_asm); (case k3 => k_asm); (case k4 => k_asm); (case k5 => k_asm); (case k6 => k_is); (case k7 => k_is); (case k8 => ktr_room); (case k9 => exact BindsTo.of_eq rfl); (case kB => exact rfl); (case kD => decide +kernel); (case hr => assumption); (case c2 => exact rfl); (case c3 => exact rfl); (case c4 => exact rfl); k_whole))
  k_with "mine made" => (k_dflt (refine' enter_made ?k1 ?k2 ?k3 ?k4 ?k5 ?kA ?kF ?kK ?k6 ?kd ?k7 ?k8 ?k9 ?kB ?hr ?_ ?c2 ?c3 ?c4 ?c5; (case kA => exact rfl); (case kF => exact rfl); (case kK => assumption); (case k1 => k_asm); (case k2 => k_asm); (case k3 => k_asm); (case k4 => k_asm); (case k5 => k_asm); (case k6 => k_mem); (case kd => exact rfl); (case k7 => exact codeRec_news (by k_asm) (by k_mem) (by assumption) (by assumption)); (case k8 => ktr_room); (case k9 => exact BindsTo.of_eq rfl); (case c5 => decide); (case kB => exact locs rfl); (case hr => assumption); (case c2 => exact rfl); (case c3 => exact rfl); (case c4 => exact rfl); k_whole))
  k_with "subscriptTail" => (k_here; (with_reducible show wpAny _ _ (subscriptTail _ (Expr.Slice _ _ none _) (Value.str _ _) (Value.ref _)) _ _ _); (with_reducible rename Fr _ _ _ _ => F9w); (with_reducible rename News _ _ _ _ => N9w); (first
  | ((with_reducible show wpAny _ _ (subscriptTail _ (Expr.Slice (some _) (some _) none _) _ _) _ _ _); (refine slice_strN_ss (hsz := ?hsz) (s := ⟨_, _, _, _, _⟩) F9w N9w ?_); (case hsz => assumption))
  | ((with_reducible show wpAny _ _ (subscriptTail _ (Expr.Slice none (some _) none _) _ _) _ _ _); (refine slice_strN_ns (hsz := ?hsz) (s := ⟨_, _, _, _, _⟩) F9w N9w ?_); (case hsz => assumption))); intro _ _ _ _ _)
  k_with "call builtin:len" => (k_here; (with_reducible show wpAny _ _ (call (Value.builtin "len") [Value.str _ _]) _ _ _); refine PyProof.Rows.len_str ?hfit ?_; (case hfit => first | exact len_fitS (by assumption) | exact len_fits (by assumption)))
  k_with "exec For Name Name cons cons" => (refine for_raw ?_)
  k_with "call builtin:iter" => (k_here; (with_reducible show wpAny _ _ (call (Value.builtin _) [Value.ref _, Value.str _ _]) _ _ _); k_dflt (refine' call_iter2 ?k1 ?k2 ?k3 ?_; (case k1 => k_asm); (case k2 => k_asm); (case k3 => k_mem); k_whole); intro it9w h9w F9w N9w l9w G9w; (try k_lt l9w))
  k_with "inplaceOp Add str str" => (refine PyProof.Rows.iadd_str (hsz := ?hszi) ?_; (case hszi => assumption); intro _ _)
  k_with "call type:enumerate" => (k_here; k_dflt (refine' call_enum ?k1 ?k2 ?k3 ?_; (case k1 => k_asm); (case k2 => k_asm); (case k3 => k_mem); k_whole))
  k_with "call type:zip" => (k_here; k_dflt (refine' call_zip ?k1 ?k2 ?k3 ?k4 ?_; (case k1 => k_asm); (case k2 => k_asm); (case k3 => k_mem); (case k4 => k_mem); k_whole))
  k_with "exec For Tuple Call cons nil" => (refine for_pair ?_)
  k_with "exec For Tuple Call cons cons" => (refine for_pair ?_)
  k_with "setItem ref int" => (k_here; k_dflt (refine' set_list ?F ?N ?k ?U ?_; (case F => k_asm); (case N => k_asm); (case U => k_upd); (case k => assumption)); intro h9w F9w N9w; (try dsimp only [List.nil_append, List.cons_append] at N9w))
  k_with "call type:enumerate" => (refine Stop.out ?_)
  k_with "lt0" => (first | with_reducible assumption | exact And.left (by with_reducible assumption) | exact And.left (And.right (by with_reducible assumption)) | exact And.left (And.right (And.right (by with_reducible assumption))) | exact And.left (And.right (And.right (And.right (by with_reducible assumption)))) | exact And.left (And.right (And.right (And.right (And.right (by with_reducible assumption))))) | exact And.left (And.right (And.right (And.right (And.right (And.right (by with_reducible assumption)))))) | exact And.left (And.right (And.right (And.right (And.right (And.right (And.right (by with_reducible assumption))))))) | exact And.left (And.right (And.right (And.right (And.right (And.right (And.right (And.right (by with_reducible assumption)))))))) | exact And.left (And.right (And.right (And.right (And.right (And.right (And.right (And.right (And.right (by with_reducible assumption))))))))) | exact And.left (And.right (And.right (And.right (And.right (And.right (And.right (And.right (And.right (And.right (by with_reducible assumption)))))))))) | exact And.left (And.right (And.right (And.right (And.right (And.right (And.right (And.right (And.right (And.right (And.right (by with_reducible assumption))))))))))) | exact And.left (And.right (And.right (And.right (And.right (And.right (And.right (And.right (And.right (And.right (And.right (And.right (by with_reducible assumption)))))))))))) | exact And.right (by with_reducible assumption) | exact And.right (And.right (by with_reducible assumption)) | exact And.right (And.right (And.right (by with_reducible assumption))) | exact And.right (And.right (And.right (And.right (by with_reducible assumption)))) | exact And.right (And.right (And.right (And.right (And.right (by with_reducible assumption))))) | exact And.right (And.right (And.right (And.right (And.right (And.right (by with_reducible assumption)))))) | exact And.right (And.right (And.right (And.right (And.right (And.right (And.right (by with_reducible assumption))))))) | exact And.right (And.right (And.right (And.right (And.right (And.right (And.right (And.right (by with_reducible assumption)))))))) | exact And.right (And.right (And.right (And.right (And.right (And.right (And.right (And.right (And.right (by with_reducible assumption))))))))) | exact And.right (And.right (And.right (And.right (And.right (And.right (And.right (And.right (And.right (And.right (by with_reducible assumption)))))))))) | exact And.right (And.right (And.right (And.right (And.right (And.right (And.right (And.right (And.right (And.right (And.right (by with_reducible assumption))))))))))) | exact nat_lt1 _)
  k_with "ch" => (first | with_reducible assumption | (refine Nat.lt_trans (by with_reducible assumption) ?_; k_extra "ch"))
  k_with "lt" => (first | k_extra "lt0" | exact nat_ltS (by k_extra "lt0") | exact nat_ltS (nat_ltS (by k_extra "lt0")) | exact nat_ltS (nat_ltS (nat_ltS (by k_extra "lt0"))) | exact nat_ltS (nat_ltS (nat_ltS (nat_ltS (by k_extra "lt0")))) | exact nat_ltS (nat_ltS (nat_ltS (nat_ltS (nat_ltS (by k_extra "lt0"))))) | exact nat_ltS (nat_ltS (nat_ltS (nat_ltS (nat_ltS (nat_ltS (by k_extra "lt0")))))) | exact nat_ltS (nat_ltS (nat_ltS (nat_ltS (nat_ltS (nat_ltS (nat_ltS (by k_extra "lt0"))))))) | exact nat_ltS (nat_ltS (nat_ltS (nat_ltS (nat_ltS (nat_ltS (nat_ltS (nat_ltS (by k_extra "lt0")))))))) | k_extra "ch")
  k_with "omega" => (first
    | with_reducible assumption
    | exact Nat.ne_of_lt (by with_reducible assumption) | exact Nat.ne_of_gt (by with_reducible assumption)
    | exact nat_room2 (by with_reducible assumption) (by rfl) | exact nat_room1 (by with_reducible assumption) (by rfl) | exact nat_room3 (by with_reducible assumption) (by rfl) | exact nat_room0 (by with_reducible assumption)
    | exact nat_meas (by with_reducible assumption) | exact nat_meas (Nat.lt_succ_of_lt (by with_reducible assumption))
    | exact c_low (by with_reducible assumption) (by rfl) | exact c_high (by with_reducible assumption) (by rfl) | exact c_lt (by with_reducible assumption) (by rfl)
    | exact Nat.succ_le_of_lt (by with_reducible assumption) | exact Nat.lt_succ_of_le (by with_reducible assumption)
    | exact And.intro (by k_extra "lt") (by k_extra "lt")
    | exact Int.natCast_nonneg _ | exact Int.ofNat_lt.mpr (by with_reducible assumption) | exact Int.ofNat_le.mpr (by with_reducible assumption) | exact int_lt (by with_reducible assumption) (by decide) | exact int_le (by with_reducible assumption) (by decide) | exact Int.lt_of_lt_of_le (by with_reducible assumption) (by decide) | exact Int.le_trans (Int.le_of_lt (by with_reducible assumption)) (by decide)
    | exact Nat.ne_of_lt (by k_extra "lt") | exact Nat.ne_of_gt (by k_extra "lt") | k_extra "lt"
    | exact Nat.le_trans (by with_reducible assumption) (by decide) | exact nat_eqle (by with_reducible assumption) (by decide) | exact Nat.le_trans (Nat.succ_le_succ (by with_reducible assumption)) (by decide) | exact Nat.le_of_lt (by with_reducible assumption) | exact Nat.le_of_eq (by with_reducible assumption)
    | decide)
  exact True.intro
set_option maxRecDepth 100000 in
set_option maxHeartbeats 8000000 in
theorem drawn_spec (w : World) (p : Program) (loose : List Str) (mean : ExcName → Option Value) (mg mb : Str → Option Value) (sc d : Addr) (vs : List Value) (ns : List Int) (hv : IntsAre vs ns) (hlen : ns.length ≤ 63) (ds : List Value) (es : List Int) (he : IntsAre ds es) (he9 : es.length = 9) (n : Nat) (hne : sc ≠ d) :
   Claim w p loose mean mg mb 78 2 [(d, W.listOf ds.toArray n)] [.ref sc, .ref d] (fun h => h.IsList sc vs.toArray) (DrawnRet d) := by
  dsimp only [Claim, PR]
  k_fill
  intro dp un gd cn cs ca ccd cl outer A₀ base h₀ L m s Q E hB hC hF hX hN hT hk hd hu hp hret
  refine wpAny_call ?_
  walk_at "mine enter"
  intro g L1 h1 FG F1 N1 B1 X1 T1 G1
  have hg : g.IsList sc vs.toArray := GSub.list G1 hp (by simpa using hne)
  refine id ?_
  (with_reducible show wpAny _ _ _ _ _ _)
  k_fold
  k_steps
  unfold Stop
  refine call_enum (by k_asm) (by k_asm) (by k_mem) ?_
  intro e it o1 h2 hi1 F2 N2 o12 of2
  (with_reducible rename IntsAre _ (List.take _ _) => hw)
  rename_i D ws _ _ _ _ _ _
  k_steps
  refine iter_enum N2 (by k_mem) ?_
  refine ⟨DrawnI g L1 s ns ws e it D d, (ns.take 60).length, ?_, ?_⟩
  · exact ⟨0, o1, .none, ds, es, h2, _, _, n, Nat.zero_le _, hi1, he, he9, fr_map1 F2 (Str.ofString "drawn") rfl, N2⟩
  · refine DrawnI.all ?_
    intro i o1 old ds es h tk u n hi hi1 he he9 F3 N3
    have qd : @LT.lt Nat _ d it := of2 (d, _) (List.mem_cons_of_mem _ List.mem_cons_self)
    have qD : @LT.lt Nat _ D it := of2 (D, _) List.mem_cons_self
    refine next_enum rfl hi1 F3 N3 o12 (by simpa using of2) (List.mem_cons_self) ?_ ?_
    · intro x T t o1' h4 tk4 hx hi1' F4 N4 oT
      obtain ⟨xi, tx, hxi, rfl⟩ := ints_at hw (by simpa using hx)
      dsimp only [ForTurn]
      have hds := ints_len he
      have hfm : 0 ≤ ((i : Int)).fmod (es.length : Int) ∧ ((i : Int)).fmod (es.length : Int) < (ds.length : Int) ∧ ((i : Int)).fmod (es.length : Int) < 2 ^ 63 := by
        rw [hds, he9, Int.fmod_eq_emod_of_nonneg _ (by decide)]; omega
      have hil : i < (ns.take 60).length := by rw [← ints_len hw]; exact (List.getElem?_eq_some_iff.mp (by simpa using hx)).1
      k_steps
      (with_reducible rename Fr _ _ _ _ => F9)
      (with_reducible rename News _ _ _ _ => N9)
      exact ⟨(ns.take 60).length - (i + 1), by omega, i + 1, o1', _, _, _, _, _, _, _, by omega, hi1', ints_set _ _ _ he, by rw [List.length_set]; exact he9, fr_map1 F9 (Str.ofString "drawn") rfl, News.tail' N9⟩
    · intro h4 hx F4 N4
      k_steps
      exact Done.intro F4 N4 _ (fun _ h => List.mem_cons_of_mem _ h) ⟨ds, es, n, he, he9⟩
end
end
section
theorem name_list2 {h₀ h : Heap} {L D it : Addr} {o : Obj} {ws : List Value} {n : Nat} {rest : List (Addr × Obj)} {P : Prop} (_N : News h₀ L h ((it, o) :: (D, W.listOf ws.toArray n) :: rest)) (k : ∀ D', D' = D → P) : P := k _ rfl
section
set_option inductive.autoPromoteIndices false in
set_option autoImplicit false in
inductive OrderRet (plc : Addr) (vs : List Value) (ps : List Nat) (n : Nat)  : Value → List (Addr × Obj) → Prop
  | mk (ord : Addr) (os : List Nat) (ov : List Value) (n' : Nat) (c0 : List.Perm os ps) (c1 : IntsAre ov (os.map fun (x : Nat) => (x : Int))) : OrderRet plc vs ps n (.ref ord) ([(ord, W.listOf ov.toArray n'), (plc, W.listOf vs.toArray n)])
set_option autoImplicit false in
theorem OrderRet.all {plc : Addr} {vs : List Value} {ps : List Nat} {n : Nat} {P : Value → List (Addr × Obj) → Prop} (h : ∀ (ord : Addr) (os : List Nat) (ov : List Value) (n' : Nat) (c0 : List.Perm os ps) (c1 : IntsAre ov (os.map fun (x : Nat) => (x : Int))), P (.ref ord) ([(ord, W.listOf ov.toArray n'), (plc, W.listOf vs.toArray n)])) : ∀ (x0 : Value) (x1 : List (Addr × Obj)), OrderRet plc vs ps n x0 x1 → P x0 x1 :=
  fun _ _ t => OrderRet.rec (motive := fun x0 x1 _ => P x0 x1) h t
set_option inductive.autoPromoteIndices false in
set_option autoImplicit false in
inductive OrderI (g : Heap) (L1 : Addr) (s : Shared) (ps : List Nat) (vs : List Value) (n : Nat) (it ol plc : Addr)  : Nat → Shared → Prop
  | mk (i : Nat) (h : Heap) (tk : Nat) (u : Str → Option Value) (tn : Int) (tf : Tok) (ov : List Value) (os : List Nat) (ne : Nat) (c0 : i ≤ 4) (c1 : Fr g L1 h (fun z => if z = Str.ofString "turn" then some (.int tn tf) else if z = Str.ofString "order" then some (.ref ol) else if z = Str.ofString "places" then some (.ref plc) else u z)) (c2 : News g L1 h [(it, rangeIt (i : Int) (4 - (i : Int))), (ol, W.listOf ov.toArray ne), (plc, W.listOf vs.toArray n)]) (c3 : IntsAre ov (os.map fun (x : Nat) => (x : Int))) (c4 : List.Perm os (ps.take i)) : OrderI g L1 s ps vs n it ol plc (4 - i) ({ s with heap := h, toks := tk })
set_option autoImplicit false in
theorem OrderI.all {g : Heap} {L1 : Addr} {s : Shared} {ps : List Nat} {vs : List Value} {n : Nat} {it : Addr} {ol : Addr} {plc : Addr} {P : Nat → Shared → Prop} (h : ∀ (i : Nat) (h : Heap) (tk : Nat) (u : Str → Option Value) (tn : Int) (tf : Tok) (ov : List Value) (os : List Nat) (ne : Nat) (c0 : i ≤ 4) (c1 : Fr g L1 h (fun z => if z = Str.ofString "turn" then some (.int tn tf) else if z = Str.ofString "order" then some (.ref ol) else if z = Str.ofString "places" then some (.ref plc) else u z)) (c2 : News g L1 h [(it, rangeIt (i : Int) (4 - (i : Int))), (ol, W.listOf ov.toArray ne), (plc, W.listOf vs.toArray n)]) (c3 : IntsAre ov (os.map fun (x : Nat) => (x : Int))) (c4 : List.Perm os (ps.take i)), P (4 - i) ({ s with heap := h, toks := tk })) : ∀ (x0 : Nat) (x1 : Shared), OrderI g L1 s ps vs n it ol plc x0 x1 → P x0 x1 :=
  fun _ _ t => OrderI.rec (motive := fun x0 x1 _ => P x0 x1) h t
theorem words_order_spec : True := by
  w_top off
  k_with_none
  k_with "mine ktr_room" => ((try simp only [depth_under_make, depth_under_kw, depth_in1, depth_deeper, depth_caller]); (try dsimp only [ktrTop]); first | decide | omega)
  k_with "mine ktr_units" => ((try simp only [units_in1, units_deeper, Around.mark_units, units_caller]); (try dsimp only [ktrTop]); first | (rw [cLine_is]; decide) | omega)
  k_with "mine call by" => ((case k1 => k_asm); (case k2 => kn_code); (case k3 => k_asm); (case k4 => k_asm); (case k5 => (refine' News.subs ?k51 ?k52; (case k51 => k_asm); (case k52 => ((repeat (refine List.forall_mem_cons.mpr (And.intro (by k_mem) ?_))); exact fun _ h => nomatch h)))); (case k6 => k_asm); (case k7 => first | exact rfl | assumption); (case k8 => ktr_room); (case k9 => ktr_units); (case kp => first | exact trivial | assumption))
  k_with "binaryOp Add str str" => (refine PyProof.Rows.add_str (hsz := ?hszq) ?_; (case hszq => assumption); intro _ _)
  k_with "call builtin:hex" => (refine P.hex_of_int ?_ (hsz := ?hszq); (case hszq => assumption))
  k_with "call builtin:list.append" => (k_here; (with_reducible show wpAny _ _ (call (Value.builtin _) [Value.ref _, _]) _ _ _); k_dflt (refine' append_K ?k1 ?k2 ?k3 ?_ ?z; (case k1 => k_asm); (case k2 => k_asm); (case k3 => k_upd); (case z => assumption); k_whole); intro h9w F9w N9w; (try k_sweep))
  k_with "call builtin:dict.get" => (k_here; k_dflt (refine' flag_get ?k1 ?k2 ?k3 ?k4 ?_; (case k1 => k_asm); (case k2 => exact Fr.keep (by with_reducible assumption)); (case k3 => assumption); (case k4 => assumption)); intro t9w tk9w)
  k_with "exec For Name Call cons nil" => (refine for_raw ?_)
  k_with "exec For Name Call cons cons" => (refine for_raw ?_)
  k_with "exec For Name Name cons nil" => (refine for_raw ?_)
  k_with "exec For Name Subscript cons nil" => (refine for_raw ?_)
  k_with "exec While Name cons nil" => (refine Stop.out ?_)
  k_with "subscriptTail" => (k_here; (with_reducible show wpAny _ _ (subscriptTail _ (Expr.Slice _ _ none _) (Value.bytes _ _) (Value.ref _)) _ _ _); (with_reducible rename Fr _ _ _ _ => F9w); (with_reducible rename News _ _ _ _ => N9w); (refine KBy.slice_N (s := ⟨_, _, _, _, _⟩) F9w N9w (by constructor) (by constructor) (by assumption) (by assumption) ?_); intro _ _ _ _ _)
  k_with "binaryOp Add bytes bytes" => (k_here; (with_reducible show wpAny _ _ (binaryOp Operator.Add (Value.bytes _ _) (Value.bytes _ _)) _ _ _); (refine KBy.add_bytes (by assumption) ?_); intro _ _)
  k_with "mine enter" => (k_dflt (refine' enter_plain ?k1 ?k2 ?k3 ?k4 ?k5 ?kA ?kF ?kK ?k6 ?k7 ?k8 ?k9 ?kB ?hr ?_ ?c2 ?c3 ?c4 ?c5; (case kA => exact rfl); (case kF => exact rfl); (case kK => assumption); (case k1 => k_asm); (case k2 => k_asm); (case k3 => k_asm); (case k4 => k_asm); (case k5 => k_asm); (case k6 => k_is); (case k7 => k_is); (case k8 => ktr_room); (case k9 => exact BindsTo.of_eq rfl); (case c5 => decide); (case kB => exact locs rfl); (case hr => assumption); (case c2 => exact rfl); (case c3 => exact rfl); (case c4 => exact rfl); k_whole))
  k_with "mine cells" => (k_dflt (refine' enter_cells ?k1 ?k2 ?k3 ?k4 ?k5 ?kA ?kF ?kK ?k6 ?k7 ?k8 ?k9 ?kB ?kD ?hr ?_ ?c2 ?c3 ?c4; (case kA => exact rfl); (case kF => exact rfl); (case kK => assumption); (case k1 => k_asm); (case k2 => k_asm); (case k3 => k_asm); (case k4 => k_asm); (case k5 => k_asm); (case k6 => k_is); (case k7 => k_is); (case k8 => ktr_room); (case k9 => exact BindsTo.of_eq rfl); (case kB => exact rfl); (case kD => decide +kernel); (case hr => assumption); (case c2 => exact rfl); (case c3 => exact rfl); (case c4 => exact rfl); k_whole))
  k_with "mine made" => (k_dflt (refine' enter_made ?k1 ?k2 ?k3 ?k4 ?k5 ?kA ?kF ?kK ?k6 ?kd ?k7 ?k8 ?k9 ?kB ?hr ?_ ?c2 ?c3 ?c4 ?c5; (case kA => exact rfl); (case kF => exact rfl); (case kK => assumption); (case k1 => k_asm); (case k2 => k_asm); (case k3 => k_asm); (case k4 => k_asm); (case k5 => k_asm); (case k6 => k_mem); (case kd => exact rfl); (case k7 => exact codeRec_news (by k_asm) (by k_mem) (by assumption) (by assumption)); (case k8 => ktr_room); (case k9 => exact BindsTo.of_eq rfl); (case c5 => decide); (case kB => exact locs rfl); (case hr => assumption); (case c2 => exact rfl); (case c3 => exact rfl); (case c4 => exact rfl); k_whole))
  k_with "subscriptTail" => (k_here; (with_reducible show wpAny _ _ (subscriptTail _ (Expr.Slice _ _ none _) (Value.str _ _) (Value.ref _)) _ _ _); (with_reducible rename Fr _ _ _ _ => F9w); (with_reducible rename News _ _ _ _ => N9w); (first
  | ((with_reducible show wpAny _ _ (subscriptTail _ (Expr.Slice (some _) (some _) none _) _ _) _ _ _); (refine slice_strN_ss (hsz := ?hsz) (s := ⟨_, _, _, _, _⟩) F9w N9w ?_); (case hsz => assumption))
  | ((with_reducible show wpAny _ _ (subscriptTail _ (Expr.Slice none (some _) none _) _ _) _ _ _); (refine slice_strN_ns (hsz := ?hsz) (s := ⟨_, _, _, _, _⟩) F9w N9w ?_); (case hsz => assumption))); intro _ _ _ _ _)
  k_with "call builtin:len" => (k_here; (with_reducible show wpAny _ _ (call (Value.builtin "len") [Value.str _ _]) _ _ _); refine PyProof.Rows.len_str ?hfit ?_; (case hfit => first | exact len_fitS (by assumption) | exact len_fits (by assumption)))
  k_with "exec For Name Name cons cons" => (refine for_raw ?_)
  k_with "call builtin:iter" => (k_here; (with_reducible show wpAny _ _ (call (Value.builtin _) [Value.ref _, Value.str _ _]) _ _ _); k_dflt (refine' call_iter2 ?k1 ?k2 ?k3 ?_; (case k1 => k_asm); (case k2 => k_asm); (case k3 => k_mem); k_whole); intro it9w h9w F9w N9w l9w G9w; (try k_lt l9w))
  k_with "inplaceOp Add str str" => (refine PyProof.Rows.iadd_str (hsz := ?hszi) ?_; (case hszi => assumption); intro _ _)
  k_with "call type:enumerate" => (k_here; k_dflt (refine' call_enum ?k1 ?k2 ?k3 ?_; (case k1 => k_asm); (case k2 => k_asm); (case k3 => k_mem); k_whole))
  k_with "call type:zip" => (k_here; k_dflt (refine' call_zip ?k1 ?k2 ?k3 ?k4 ?_; (case k1 => k_asm); (case k2 => k_asm); (case k3 => k_mem); (case k4 => k_mem); k_whole))
  k_with "exec For Tuple Call cons nil" => (refine for_pair ?_)
  k_with "exec For Tuple Call cons cons" => (refine for_pair ?_)
  k_with "setItem ref int" => (k_here; k_dflt (refine' set_list ?F ?N ?k ?U ?_; (case F => k_asm); (case N => k_asm); (case U => k_upd); (case k => assumption)); intro h9w F9w N9w; (try dsimp only [List.nil_append, List.cons_append] at N9w))
  k_with "call builtin:list.insert" => (k_here; (with_reducible show wpAny _ _ (call (Value.builtin _) [Value.ref _, Value.int _ _, _]) _ _ _); k_dflt (refine' ins_list ?F ?N ?k ?U ?_; (case F => k_asm); (case N => k_asm); (case U => k_upd); (case k => assumption)); intro h9w F9w N9w; (try dsimp only [List.nil_append, List.cons_append] at N9w))
  k_with "exec For Name Call cons nil" => (refine Stop.out ?_)
  k_with "lt0" => (first | with_reducible assumption | exact And.left (by with_reducible assumption) | exact And.left (And.right (by with_reducible assumption)) | exact And.left (And.right (And.right (by with_reducible assumption))) | exact And.left (And.right (And.right (And.right (by with_reducible assumption)))) | exact And.left (And.right (And.right (And.right (And.right (by with_reducible assumption))))) | exact And.left (And.right (And.right (And.right (And.right (And.right (by with_reducible assumption)))))) | exact And.left (And.right (And.right (And.right (And.right (And.right (And.right (by with_reducible assumption))))))) | exact And.left (And.right (And.right (And.right (And.right (And.right (And.right (And.right (by with_reducible assumption)))))))) | exact And.left (And.right (And.right (And.right (And.right (And.right (And.right (And.right (And.right (by with_reducible assumption))))))))) | exact And.left (And.right (And.right (And.right (And.right (And.right (And.right (And.right (And.right (And.right (by with_reducible assumption)))))))))) | exact And.left (And.right (And.right (And.right (And.right (And.right (And.right (And.right (And.right (And.right (And.right (by with_reducible assumption))))))))))) | exact And.left (And.right (And.right (And.right (And.right (And.right (And.right (And.right (And.right (And.right (And.right (And.right (by with_reducible assumption)))))))))))) | exact And.right (by with_reducible assumption) | exact And.right (And.right (by with_reducible assumption)) | exact And.right (And.right (And.right (by with_reducible assumption))) | exact And.right (And.right (And.right (And.right (by with_reducible assumption)))) | exact And.right (And.right (And.right (And.right (And.right (by with_reducible assumption))))) | exact And.right (And.right (And.right (And.right (And.right (And.right (by with_reducible assumption)))))) | exact And.right (And.right (And.right (And.right (And.right (And.right (And.right (by with_reducible assumption))))))) | exact And.right (And.right (And.right (And.right (And.right (And.right (And.right (And.right (by with_reducible assumption)))))))) | exact And.right (And.right (And.right (And.right (And.right (And.right (And.right (And.right (And.right (by with_reducible assumption))))))))) | exact And.right (And.right (And.right (And.right (And.right (And.right (And.right (And.right (And.right (And.right (by with_reducible assumption)))))))))) | exact And.right (And.right (And.right (And.right (And.right (And.right (And.right (And.right (And.right (And.right (And.right (by with_reducible assumption))))))))))) | exact nat_lt1 _)
  k_with "ch" => (first | with_reducible assumption | (refine Nat.lt_trans (by with_reducible assumption) ?_; k_extra "ch"))
  k_with "lt" => (first | k_extra "lt0" | exact nat_ltS (by k_extra "lt0") | exact nat_ltS (nat_ltS (by k_extra "lt0")) | exact nat_ltS (nat_ltS (nat_ltS (by k_extra "lt0"))) | exact nat_ltS (nat_ltS (nat_ltS (nat_ltS (by k_extra "lt0")))) | exact nat_ltS (nat_ltS (nat_ltS (nat_ltS (nat_ltS (by k_extra "lt0"))))) | exact nat_ltS (nat_ltS (nat_ltS (nat_ltS (nat_ltS (nat_ltS (by k_extra "lt0")))))) | exact nat_ltS (nat_ltS (nat_ltS (nat_ltS (nat_ltS (nat_ltS (nat_ltS (by k_extra "lt0"))))))) | exact nat_ltS (nat_ltS (nat_ltS (nat_ltS (nat_ltS (nat_ltS (nat_ltS (nat_ltS (by k_extra "lt0")))))))) | k_extra "ch")
  k_with "omega" => (first
    | with_reducible assumption
    | exact Nat.ne_of_lt (by with_reducible assumption) | exact Nat.ne_of_gt (by with_reducible assumption)
    | exact nat_room2 (by with_reducible assumption) (by rfl) | exact nat_room1 (by with_reducible assumption) (by rfl) | exact nat_room3 (by with_reducible assumption) (by rfl) | exact nat_room0 (by with_reducible assumption)
    | exact nat_meas (by with_reducible assumption) | exact nat_meas (Nat.lt_succ_of_lt (by with_reducible assumption))
    | exact c_low (by with_reducible assumption) (by rfl) | exact c_high (by with_reducible assumption) (by rfl) | exact c_lt (by with_reducible assumption) (by rfl)
    | exact Nat.succ_le_of_lt (by with_reducible assumption) | exact Nat.lt_succ_of_le (by with_reducible assumption)
    | exact Int.ofNat_lt.mpr (by with_reducible assumption)
    | exact Nat.ne_of_lt (by k_extra "lt") | exact Nat.ne_of_gt (by k_extra "lt") | k_extra "lt"
    | exact Nat.le_trans (by with_reducible assumption) (by decide)
    | decide)
  exact True.intro
set_option maxRecDepth 100000 in
set_option maxHeartbeats 8000000 in
theorem order_spec (w : World) (p : Program) (loose : List Str) (mean : ExcName → Option Value) (mg mb : Str → Option Value) (plc : Addr) (vs : List Value) (ps : List Nat) (hv : IntsAre vs (ps.map fun (x : Nat) => (x : Int))) (hlen : ps.length = 4) (n : Nat) (turn : Int) (tt : Tok) :
   Claim w p loose mean mg mb 111 2 [(plc, W.listOf vs.toArray n)] [.ref plc, .int turn tt] (fun _ => True) (OrderRet plc vs ps n) := by
  have hlm : (ps.map fun (x : Nat) => (x : Int)).length = 4 := by rw [List.length_map, hlen]
  dsimp only [Claim, PR]
  k_fill
  intro dp un gd cn cs ca ccd cl outer A₀ base h₀ L m s Q E hB hC hF hX hN hT hk hd hu hp hret
  refine wpAny_call ?_
  walk_at "mine enter"
  intro g L1 h1 FG F1 N1 B1 X1 T1 G1
  refine id ?_
  (with_reducible show wpAny _ _ _ _ _ _)
  k_fold
  k_steps
  unfold Stop
  refine for_raw ?_
  k_steps
  (with_reducible rename IsRange _ _ _ _ _ _ _ _ => rg)
  rw [hlm] at rg
  refine iter_range (by k_asm) (by k_asm) rg (by decide) (n := 4) (by decide) ?_
  intro it h2 F2 N2 l2 _
  rename_i ol _ _ _ _ _ _ _ _ _ _ _ _ _ _
  have ql : @LT.lt Nat _ ol it := l2 (ol, _) List.mem_cons_self
  have qp : @LT.lt Nat _ plc it := l2 (plc, _) (List.mem_cons_of_mem _ List.mem_cons_self)
  refine ⟨OrderI g L1 s ps vs n it ol plc, 4, ?_, ?_⟩
  · exact ⟨0, h2, _, _, turn, tt, [], [], 0, Nat.zero_le _, fr_map3 F2 (Str.ofString "turn") (Str.ofString "order") (Str.ofString "places") rfl rfl rfl, N2, .nil, by rw [List.take_zero]⟩
  · refine OrderI.all ?_
    intro i h tk u tn tf ov os ne hi F3 N3 hov hos
    have hne : ∀ p ∈ [(ol, W.listOf ov.toArray ne), (plc, W.listOf vs.toArray n)], p.1 ≠ it := by
      intro p hp
      simp only [List.mem_cons, List.not_mem_nil, or_false] at hp
      rcases hp with rfl | rfl
      · exact Nat.ne_of_lt ql
      · exact Nat.ne_of_lt qp
    refine next_range rfl F3 N3 hne ?_ ?_
    · intro t4 h4 tk4 lt4 F4 N4 _
      have hi4 : i < 4 := by omega
      have hov4 : ov.length ≤ 1000 := by rw [ints_len hov, List.length_map, hos.length_eq, List.length_take]; omega
      have hfm : 0 ≤ tn.fmod ((i : Int) + 1) ∧ tn.fmod ((i : Int) + 1) < 2 ^ 62 ∧ ov.length ≤ 1000 := by
        rw [Int.fmod_eq_emod_of_nonneg _ (by omega)]
        have h1 := Int.emod_nonneg tn (b := (i : Int) + 1) (by omega)
        have h2 := Int.emod_lt_of_pos tn (b := (i : Int) + 1) (by omega)
        omega
      dsimp only [ForTurn]
      k_steps
      (with_reducible rename Fr _ _ _ _ => F9)
      (with_reducible rename News _ _ _ _ => N9)
      have hg : (List.map (fun (x : Nat) => (x : Int)) ps).getD ((i : Int)).toNat 0 = ((ps.getD i 0 : Nat) : Int) := by
        have hip : i < ps.length := by omega
        rw [Int.toNat_natCast]
        simp [List.getD_eq_getElem?_getD, List.getElem?_eq_getElem hip]
      rw [hg, show (4 : Int) - (i : Int) - 1 = 4 - ((i + 1 : Nat) : Int) by omega, show (i : Int) + 1 = ((i + 1 : Nat) : Int) by omega] at N9
      refine ⟨4 - (i + 1), by omega, i + 1, _, _, _, _, _, _, _, _, by omega, fr_map3 F9 (Str.ofString "turn") (Str.ofString "order") (Str.ofString "places") rfl rfl rfl, N9, ints_ins hov _ _ _, ?_⟩
      have hip : i < ps.length := by omega
      refine (insN_perm _ _ _).trans ?_
      rw [List.take_add_one, List.getElem?_eq_getElem hip, List.getD_eq_getElem?_getD, List.getElem?_eq_getElem hip]
      exact (List.Perm.cons _ hos).trans (List.perm_append_singleton _ _).symm
    · intro h4 lt4 F4 N4 _
      have hi4 : i = 4 := by omega
      subst hi4
      dsimp only [ForTurn]
      k_steps
      refine Done.all (by assumption) (by assumption) ⟨ol, os, ov, ne, ?_, hov⟩
      rw [List.take_of_length_le (by omega)] at hos
      exact hos
end
end
theorem words_none_LawW : True := by
  w_top off
  k_with_none
  exact True.intro
section
open PySem PySem.W PyProof.Rows PySem.Calls
theorem fr_map4 {h₀ : Heap} {L : Addr} {m' : Str → Option Value} {h : Heap} (F : Fr h₀ L h m') (x y z r : Str) {v u t s : Value} (hx : m' x = some v) (hy : m' y = some u) (hz : m' z = some t) (hr : m' r = some s) : Fr h₀ L h (fun q => if q = x then some v else if q = y then some u else if q = z then some t else if q = r then some s else m' q) :=
  fr_map F [(x, v), (y, u), (z, t), (r, s)] (List.forall_mem_cons.mpr ⟨hx, List.forall_mem_cons.mpr ⟨hy, List.forall_mem_cons.mpr ⟨hz, List.forall_mem_cons.mpr ⟨hr, fun _ h => nomatch h⟩⟩⟩⟩)
/-- a call was handed the lexer and two more things, which it leaves as they were -/
theorem lex_put2 {w : World} {a : LexA} {front two back : List (Addr × Obj)} {h₀ h h' : Heap} {L : Addr} {line line' : Int} {tl tl' : Tok} {items items' : Array Value} {n n' : Nat} {pos pos' : Int} {tp tp' : Tok} {np np' : Nat}
    (N : News h₀ L h (front ++ (lexN w a line tl items n pos tp np ++ (two ++ back)))) (G : GSub h h' ((lexN w a line tl items n pos tp np ++ two).map (·.1))) (N' : News h₀ L h' (lexN w a line' tl' items' n' pos' tp' np' ++ two))
    (hf : ∀ p ∈ front, offLex a p.1) (hb : ∀ p ∈ back, offLex a p.1) : News h₀ L h' (front ++ (lexN w a line' tl' items' n' pos' tp' np' ++ (two ++ back))) := fun p hp => by
  have key : ∀ q : Addr × Obj, q ∈ front ++ (lexN w a line tl items n pos tp np ++ (two ++ back)) → offLex a q.1 → h'.get? q.1 = some q.2 ∧ q.1 ≠ L ∧ h₀.get? q.1 = none := fun q hq ho => by
    have hN := N q hq
    by_cases hx : q.1 ∈ two.map (·.1)
    · obtain ⟨r, hr, e⟩ := List.mem_map.mp hx
      have h1 := (N r (List.mem_append_right _ (List.mem_append_right _ (List.mem_append_left _ hr)))).1
      have h2 := N' r (List.mem_append_right _ hr)
      rw [e] at h1 h2
      rw [h1] at hN
      rw [← Option.some.inj hN.1]
      exact h2
    · refine ⟨G _ _ hN.1 (fun hx2 => ?_), hN.2⟩
      rw [List.map_append] at hx2
      rcases List.mem_append.mp hx2 with hx2 | hx2
      · exact ho.not hx2
      · exact hx hx2
  rcases List.mem_append.mp hp with h1 | h1
  · exact key p (List.mem_append_left _ h1) (hf p h1)
  · rcases List.mem_append.mp h1 with h2 | h2
    · exact N' p (List.mem_append_left _ h2)
    · rcases List.mem_append.mp h2 with h3 | h3
      · exact N' p (List.mem_append_right _ h3)
      · exact key p (List.mem_append_right _ (List.mem_append_right _ (List.mem_append_right _ h3))) (hb p h3)
theorem os_mem {ps os : List Nat} (hperm : os.Perm ps) {j p : Nat} (h : os[j]? = some p) : p ∈ ps := hperm.mem_iff.mp (List.mem_of_getElem? h)
theorem down_eq (pp : Nat) (nums : List Nat) : ∀ (j F : Nat), nums[j]? = some F → (shiftL pp nums)[j]? = some (if F.testBit pp = true ∧ F - 2 ^ pp ∉ nums then F - 2 ^ pp else F) := by
  intro j F h
  unfold shiftL
  rw [List.getElem?_map, h]; rfl
theorem not_two {x y z : Addr} (h1 : @Ne Nat x y) (h2 : @Ne Nat x z) {o1 o2 : Obj} : x ∉ ([(y, o1), (z, o2)] : List (Addr × Obj)).map (·.1) := by
  simp only [List.map_cons, List.map_nil, List.mem_cons, List.not_mem_nil, or_false]
  rintro (h | h)
  · exact h1 h
  · exact h2 h
theorem off_it {w : World} {a : LexA} {it : Addr} {back : List (Addr × Obj)} {line : Int} {tl : Tok} {items : Array Value} {n : Nat} {pos : Int} {tp : Tok} {np : Nat} (o : offLex a it) (h : ∀ x ∈ back.map (·.1), @LT.lt Nat _ x it) : ∀ p ∈ lexN w a line tl items n pos tp np ++ back, p.1 ≠ it := fun p hp => by
  rcases List.mem_append.mp hp with h1 | h1
  · intro e
    have h2 := List.mem_map_of_mem (f := (·.1)) h1
    rw [e] at h2
    exact o.not h2
  · exact Nat.ne_of_lt (h p.1 (List.mem_map_of_mem (f := (·.1)) h1))
noncomputable abbrev cellsL (L : Addr) (c7 cX c5 cx cM cP cD : Obj) (tb : Array Value) : List (Addr × Obj) := [(L + 1 + 1 + 1 + 1 + 1 + 1 + 1, c7), (L + 1 + 1 + 1 + 1 + 1 + 1, cX), (L + 1 + 1 + 1 + 1 + 1, c5), (L + 1 + 1 + 1 + 1, cx), (L + 1 + 1 + 1, cM), (L + 1 + 1, cP), (L + 1, cD), (85, tabObj tb)]
end
section
open PySem PySem.W PyProof.Rows PySem.Calls
theorem joinL_ok : ∀ ws : List (List Nat), (∀ v ∈ ws, ∀ c ∈ v, c < 1114112) → ∀ c ∈ joinL ws, c < 1114112
  | [], _, c, hc => by cases hc
  | [v], h, c, hc => h v List.mem_cons_self c hc
  | v :: u :: r, h, c, hc => by
    have e : joinL (v :: u :: r) = v ++ (44 :: 32 :: joinL (u :: r)) := rfl
    rw [e] at hc
    rcases List.mem_append.mp hc with hc | hc
    · exact h v List.mem_cons_self c hc
    · rcases List.mem_cons.mp hc with rfl | hc
      · decide
      · rcases List.mem_cons.mp hc with rfl | hc
        · decide
        · exact joinL_ok (u :: r) (fun x hx => h x (List.mem_cons_of_mem _ hx)) c hc
theorem name_chars : ∀ q : Nat, q < 16 → ((nameS q).cps.toList.all fun c => decide (c < 1114112)) = true := by decide +kernel
theorem strs_back (ns : List Str) : ns = (ns.map fun x => x.cps.toList).map strOf := by
  rw [List.map_map]
  conv => lhs; rw [← List.map_id ns]
  exact List.map_congr_left fun x _ => (strOf_cps x).symm
theorem lay_pretty (F : Nat) (_h : F < 65536) : PyData.canLay0 (.str (prettyS F)) = true := by
  unfold prettyS
  by_cases h0 : F = 0
  · rw [if_pos h0]; decide +kernel
  · rw [if_neg h0, strs_back (namesTo F 16), join_joinL]
    show PyData.strOk _ = true
    unfold PyData.strOk strOf
    rw [Array.all_eq_true]
    intro i hi
    have hm : (joinL ((namesTo F 16).map fun x => x.cps.toList)).toArray[i] ∈ joinL ((namesTo F 16).map fun x => x.cps.toList) := by simp
    refine decide_eq_true (joinL_ok _ ?_ _ hm)
    intro v hv c hc
    obtain ⟨x, hx, rfl⟩ := List.mem_map.mp hv
    unfold namesTo at hx
    obtain ⟨q, hq, rfl⟩ := List.mem_map.mp hx
    have hq16 := List.mem_range.mp (List.mem_filter.mp hq).1
    exact of_decide_eq_true (List.all_eq_true.mp (name_chars q hq16) c hc)
theorem lay_pretties (xs : List Nat) (h : ∀ x ∈ xs, x < 65536) : ∀ x ∈ xs.map prettyS, PyData.canLay0 (.str x) = true := fun x hx => by
  obtain ⟨F, hF, rfl⟩ := List.mem_map.mp hx
  exact lay_pretty F (h F hF)
theorem subs_small {ps : List Nat} (hp : ps.Pairwise (· < ·)) {X s : Nat} (hX : X < 65536) (h : s ∈ subsL ps X) : s < 65536 :=
  Nat.lt_of_le_of_lt (sub_le (((subs_all ps hp X).mem s).mp h).1) hX
theorem subs_len {ps : List Nat} {X : Nat} (acc : List Nat) : (ps.foldl (subsStep X) acc).length ≤ 2 ^ ps.length * acc.length := by
  induction ps generalizing acc with
  | nil => simp
  | cons p r ih =>
    rw [List.foldl_cons]
    refine Nat.le_trans (ih _) ?_
    have h1 : (subsStep X acc p).length ≤ 2 * acc.length := by
      unfold subsStep
      split
      · rw [List.length_append, List.length_map]; omega
      · omega
    rw [List.length_cons, Nat.pow_succ, Nat.mul_assoc]
    exact Nat.mul_le_mul_left _ h1
theorem os_nodup {ps os : List Nat} (hperm : os.Perm ps) (hp : ps.Pairwise (· < ·)) : os.Nodup := hperm.nodup_iff.mpr (hp.imp fun h => Nat.ne_of_lt h)
theorem shown_is {ps os ms nums : List Nat} (hps : ps.Pairwise (· < ·)) (hperm : os.Perm ps) (hok : MemOk ps ms j) (hn : nums = shiftAll os ms) {X : Nat} (hX : X ∈ nums)
    {sh : List Int} (hs : sh.Pairwise (· ≤ ·)) (hnd : sh.Nodup) (hm : ∀ x, x ∈ sh ↔ x ∈ ms.map fun (M : Nat) => ((M &&& X : Nat) : Int)) : sh = (subsL ps X).map fun (n : Nat) => (n : Int) :=
  shown_eq ps os ms hps (os_nodup hperm hps) (fun _ h => hperm.mem_iff.mpr h) hok.bits hok.nodup X (hn ▸ hX) sh hs hnd fun x => (hm x).trans (by
    rw [List.mem_map]
    exact ⟨fun ⟨a, h1, h2⟩ => ⟨a, h1, h2.symm⟩, fun ⟨a, h1, h2⟩ => ⟨a, h1, h2.symm⟩⟩)
/-- a call that leaves what it was handed as it was -/
theorem call_put {h₀ h h' : Heap} {L : Addr} {two all news' : List (Addr × Obj)} (N : News h₀ L h all) (G : GSub h h' (two.map (·.1))) (N' : News h₀ L h' news') (ht : ∀ p ∈ two, p ∈ all) (hs : ∀ p ∈ two, p ∈ news') : News h₀ L h' (news' ++ all) := fun p hp => by
  rcases List.mem_append.mp hp with h1 | h1
  · exact N' p h1
  · have hN := N p h1
    by_cases hx : p.1 ∈ two.map (·.1)
    · obtain ⟨r, hr, e⟩ := List.mem_map.mp hx
      have h2 := (N r (ht r hr)).1
      have h3 := N' r (hs r hr)
      rw [e] at h2 h3
      rw [h2] at hN
      rw [← Option.some.inj hN.1]
      exact h3
    · exact ⟨G _ _ hN.1 hx, hN.2⟩
theorem range_step (j n : Nat) : rangeIt ((j : Int) + 1) ((n : Int) - (j : Int) - 1) = rangeIt ((j + 1 : Nat) : Int) ((n : Int) - ((j + 1 : Nat) : Int)) := by
  rw [show ((j + 1 : Nat) : Int) = (j : Int) + 1 by push_cast; rfl, show (n : Int) - ((j : Int) + 1) = (n : Int) - (j : Int) - 1 by omega]
theorem getD_cast (l : List Nat) (j F : Nat) (h : l[j]? = some F) : (List.map (fun (x : Nat) => (x : Int)) l).getD ((j : Nat) : Int).toNat 0 = (F : Int) := by
  rw [Int.toNat_natCast, List.getD_eq_getElem?_getD, List.getElem?_map, h]; rfl
set_option inductive.autoPromoteIndices false in
set_option autoImplicit false in
inductive LawI (base : Heap) (L : Addr) (s₁ : Shared) (w : World) (a : LexA) (ms os : List Nat) (de : List Int) (tJ : Tok) (it mem ord D dr : Addr) (mv ov ys dv : List Value) (nm no dn : Nat) (c7 cX c5 cx cM cP cD : Obj) (tb : Array Value)  : Nat → Shared → Prop
  | mk (j : Nat) (oi : Obj) (nums : List Nat) (line : Nat → Int) (items : Nat → Array Value) (pos : Nat → Int) (tl : Tok) (n : Nat) (tp : Tok) (np : Nat) (h : Heap) (tk : Nat) (u : Str → Option Value) (hc0 : j ≤ 4) (hc1 : IsIt oi ord j) (hc2 : LawAt w a ms os (textL (wsOf ms de)) j nums line items pos) (hc3 : Fr base L h (fun z => if z = Str.ofString "order" then some (.ref ord) else if z = Str.ofString "place" then some (.ref a.pl) else if z = Str.ofString "text" then some (.str (strOf (textL (wsOf ms de))) tJ) else u z)) (hc4 : News base L h ([(it, oi)] ++ (lexN w a (line 0) tl (items 0) n (pos 0) tp np ++ ([(mem, W.listOf mv.toArray nm), (D, W.listOf ys.toArray ys.length)] ++ ((ord, W.listOf ov.toArray no) :: (dr, W.listOf dv.toArray dn) :: cellsL L c7 cX c5 cx cM cP cD tb))))) : LawI base L s₁ w a ms os de tJ it mem ord D dr mv ov ys dv nm no dn c7 cX c5 cx cM cP cD tb (4 - j) ({ s₁ with heap := h, toks := tk })
set_option autoImplicit false in
theorem LawI.all {base : Heap} {L : Addr} {s₁ : Shared} {w : World} {a : LexA} {ms : List Nat} {os : List Nat} {de : List Int} {tJ : Tok} {it : Addr} {mem : Addr} {ord : Addr} {D : Addr} {dr : Addr} {mv : List Value} {ov : List Value} {ys : List Value} {dv : List Value} {nm : Nat} {no : Nat} {dn : Nat} {c7 : Obj} {cX : Obj} {c5 : Obj} {cx : Obj} {cM : Obj} {cP : Obj} {cD : Obj} {tb : Array Value} {P : Nat → Shared → Prop} (h : ∀ (j : Nat) (oi : Obj) (nums : List Nat) (line : Nat → Int) (items : Nat → Array Value) (pos : Nat → Int) (tl : Tok) (n : Nat) (tp : Tok) (np : Nat) (h : Heap) (tk : Nat) (u : Str → Option Value) (hc0 : j ≤ 4) (hc1 : IsIt oi ord j) (hc2 : LawAt w a ms os (textL (wsOf ms de)) j nums line items pos) (hc3 : Fr base L h (fun z => if z = Str.ofString "order" then some (.ref ord) else if z = Str.ofString "place" then some (.ref a.pl) else if z = Str.ofString "text" then some (.str (strOf (textL (wsOf ms de))) tJ) else u z)) (hc4 : News base L h ([(it, oi)] ++ (lexN w a (line 0) tl (items 0) n (pos 0) tp np ++ ([(mem, W.listOf mv.toArray nm), (D, W.listOf ys.toArray ys.length)] ++ ((ord, W.listOf ov.toArray no) :: (dr, W.listOf dv.toArray dn) :: cellsL L c7 cX c5 cx cM cP cD tb))))), P (4 - j) ({ s₁ with heap := h, toks := tk })) : ∀ (x0 : Nat) (x1 : Shared), LawI base L s₁ w a ms os de tJ it mem ord D dr mv ov ys dv nm no dn c7 cX c5 cx cM cP cD tb x0 x1 → P x0 x1 :=
  fun _ _ t => LawI.rec (motive := fun x0 x1 _ => P x0 x1) h t
set_option inductive.autoPromoteIndices false in
set_option autoImplicit false in
inductive LawJ (L : Addr) (w : World) (a : LexA) (nums : List Nat) (line : Nat → Int) (items : Nat → Array Value) (pos : Nat → Int) (mem ord D dr : Addr) (mv ov ys dv : List Value) (nm no dn : Nat) (c7 cX c5 cx cM cP cD : Obj) (tb : Array Value) (i : Nat) (ys2 : List Value) : List (Addr × Obj) → Prop
  | mk (tl : Tok) (n : Nat) (tp : Tok) (np : Nat) (hc0 : IntsAre ys2 ((nums.take i).map fun (x : Nat) => (x : Int))) : LawJ L w a nums line items pos mem ord D dr mv ov ys dv nm no dn c7 cX c5 cx cM cP cD tb i ys2 (lexN w a (line i) tl (items i) n (pos i) tp np ++ ([(mem, W.listOf mv.toArray nm), (D, W.listOf ys.toArray ys.length)] ++ ((ord, W.listOf ov.toArray no) :: (dr, W.listOf dv.toArray dn) :: cellsL L c7 cX c5 cx cM cP cD tb)))
set_option autoImplicit false in
theorem LawJ.all {L : Addr} {w : World} {a : LexA} {nums : List Nat} {line : Nat → Int} {items : Nat → Array Value} {pos : Nat → Int} {mem : Addr} {ord : Addr} {D : Addr} {dr : Addr} {mv : List Value} {ov : List Value} {ys : List Value} {dv : List Value} {nm : Nat} {no : Nat} {dn : Nat} {c7 : Obj} {cX : Obj} {c5 : Obj} {cx : Obj} {cM : Obj} {cP : Obj} {cD : Obj} {tb : Array Value} {i : Nat} {ys2 : List Value} {P : List (Addr × Obj) → Prop} (h : ∀ (tl : Tok) (n : Nat) (tp : Tok) (np : Nat) (hc0 : IntsAre ys2 ((nums.take i).map fun (x : Nat) => (x : Int))), P (lexN w a (line i) tl (items i) n (pos i) tp np ++ ([(mem, W.listOf mv.toArray nm), (D, W.listOf ys.toArray ys.length)] ++ ((ord, W.listOf ov.toArray no) :: (dr, W.listOf dv.toArray dn) :: cellsL L c7 cX c5 cx cM cP cD tb)))) : ∀ (x0 : List (Addr × Obj)), LawJ L w a nums line items pos mem ord D dr mv ov ys dv nm no dn c7 cX c5 cx cM cP cD tb i ys2 x0 → P x0 :=
  fun _ t => LawJ.rec (motive := fun x0 _ => P x0) h t
set_option inductive.autoPromoteIndices false in
set_option autoImplicit false in
inductive LastI (base : Heap) (L : Addr) (s₁ : Shared) (w : World) (a : LexA) (nums ms : List Nat) (de : List Int) (it2 D2 mem ord D dr : Addr) (ys2 mv ov ys dv : List Value) (nm no dn : Nat) (cF cX cx cM cP cD : Obj) (tb : Array Value) (tl : Tok) (n : Nat) (tp : Tok) (np : Nat)  : Nat → Shared → Prop
  | mk (j : Nat) (ck : Obj) (cv : Option Value) (h : Heap) (tk : Nat) (u : Str → Option Value) (hc0 : j ≤ nums.length) (hc1 : ck.data = .cell cv) (hc2 : Fr base L h (fun z => if z = Str.ofString "order" then some (.ref ord) else u z)) (hc3 : News base L h ((it2, rangeIt (j : Int) ((nums.length : Int) - (j : Int))) :: (D2, LCg.lst ys2) :: (lexN w a (1 + (((textL (wsOf ms de)).count 10 : Nat) : Int)) tl #[] n (((textL (wsOf ms de)).length : Nat) : Int) tp np ++ ([(mem, W.listOf mv.toArray nm), (D, W.listOf ys.toArray ys.length)] ++ ((ord, W.listOf ov.toArray no) :: (dr, W.listOf dv.toArray dn) :: cellsL L cF cX ck cx cM cP cD tb))))) : LastI base L s₁ w a nums ms de it2 D2 mem ord D dr ys2 mv ov ys dv nm no dn cF cX cx cM cP cD tb tl n tp np (nums.length - j) ({ s₁ with heap := h, toks := tk })
set_option autoImplicit false in
theorem LastI.all {base : Heap} {L : Addr} {s₁ : Shared} {w : World} {a : LexA} {nums : List Nat} {ms : List Nat} {de : List Int} {it2 : Addr} {D2 : Addr} {mem : Addr} {ord : Addr} {D : Addr} {dr : Addr} {ys2 : List Value} {mv : List Value} {ov : List Value} {ys : List Value} {dv : List Value} {nm : Nat} {no : Nat} {dn : Nat} {cF : Obj} {cX : Obj} {cx : Obj} {cM : Obj} {cP : Obj} {cD : Obj} {tb : Array Value} {tl : Tok} {n : Nat} {tp : Tok} {np : Nat} {P : Nat → Shared → Prop} (h : ∀ (j : Nat) (ck : Obj) (cv : Option Value) (h : Heap) (tk : Nat) (u : Str → Option Value) (hc0 : j ≤ nums.length) (hc1 : ck.data = .cell cv) (hc2 : Fr base L h (fun z => if z = Str.ofString "order" then some (.ref ord) else u z)) (hc3 : News base L h ((it2, rangeIt (j : Int) ((nums.length : Int) - (j : Int))) :: (D2, LCg.lst ys2) :: (lexN w a (1 + (((textL (wsOf ms de)).count 10 : Nat) : Int)) tl #[] n (((textL (wsOf ms de)).length : Nat) : Int) tp np ++ ([(mem, W.listOf mv.toArray nm), (D, W.listOf ys.toArray ys.length)] ++ ((ord, W.listOf ov.toArray no) :: (dr, W.listOf dv.toArray dn) :: cellsL L cF cX ck cx cM cP cD tb))))), P (nums.length - j) ({ s₁ with heap := h, toks := tk })) : ∀ (x0 : Nat) (x1 : Shared), LastI base L s₁ w a nums ms de it2 D2 mem ord D dr ys2 mv ov ys dv nm no dn cF cX cx cM cP cD tb tl n tp np x0 x1 → P x0 x1 :=
  fun _ _ t => LastI.rec (motive := fun x0 x1 _ => P x0 x1) h t
end
section
set_option maxRecDepth 100000 in
theorem law_post (ns : List Int) : Challenge.rw_ty0007_01.row.claim.post [ofPy (PyData.list (ns.map PyData.int))] (WData.bool true) [ofPy (PyData.list (ns.map PyData.int))] = true := by
  wrow_post
end
section
structure Cut (R : Prop) : Prop where
  out : R
theorem name_ints {vs : List Value} {ns : List Int} {P : Prop} (_h : IntsAre vs ns) (k : ∀ vs' ns', vs' = vs → ns' = ns → P) : P := k _ _ rfl rfl
noncomputable def Far (D : Addr) (l : List Addr) : Prop := ∀ x ∈ l, @Ne Nat x D
theorem Far.ne {D x : Addr} {l : List Addr} (h : Far D l) (hx : x ∈ l) : D ≠ x := (h x hx).symm
theorem Far.ne' {D x : Addr} {l : List Addr} (h : Far D l) (hx : x ∈ l) : x ≠ D := h x hx
theorem far_of {D : Addr} {l : List (Addr × Obj)} (off : LCg.Off1 D l) : Far D (l.map (·.1)) := fun x hx => by
  obtain ⟨p, hp, rfl⟩ := List.mem_map.mp hx
  exact off1_mem l off p hp
theorem ints_snoc {ys : List Value} {ns : List Int} {x k : Int} {t : Tok} (h : IntsAre ys ns) (e : x = k) : IntsAre (ys ++ [.int x t]) (ns ++ [k]) := e ▸ h.append (.cons _ _ .nil)
theorem ne_lits {a b : Addr} (h : (a : Nat) ≠ b) : a ≠ b := h
end
local macro_rules | `(tactic| k_ne) => `(tactic| k_extra "mine k_ne")
section
theorem rg_small : ∀ i : Nat, i < 4 → Builtin.Range.small 0 (0 + (i : Int) + 1) 1 = true := by decide
theorem rg_size : ∀ i : Nat, i < 4 → Builtin.Range.rangeSize 0 (0 + (i : Int) + 1) 1 = ((i + 1 : Nat) : Int) := by decide
theorem log2s : ∀ i : Nat, i < 4 → ((2 : Int) ^ ((0 : Int) + (i : Int)).toNat).natAbs.log2 < 9000 := by decide
theorem log4 : ∀ i : Nat, i < 4 → ((4 : Int) ^ ((0 : Int) + (i : Int)).toNat).natAbs.log2 < 9000 := by decide
theorem far_ret {h₀ h : Heap} {L : Addr} {all news' : List (Addr × Obj)} {adr : List Addr} (N : News h₀ L h all) (O : ∀ p ∈ news', p.1 ∈ adr ∨ h.get? p.1 = none) {a : Addr} {oa : Obj} (ha : (a, oa) ∈ news') (l : List (Addr × Obj)) (h1 : ∀ p ∈ l, p ∈ all) (h2 : ∀ p ∈ l, p.1 ∉ adr) : Far a (l.map (·.1)) := fun x hx => by
  obtain ⟨p, hp, rfl⟩ := List.mem_map.mp hx
  exact (ret_ne N O ha (h1 p hp) (h2 p hp)).symm
theorem far_one {D : Addr} {l : List (Addr × Obj)} (h : Far D (l.map (·.1))) : ∀ p ∈ l, p.1 ∉ [D] := fun p hp e => h p.1 (List.mem_map_of_mem hp) (List.mem_singleton.mp e)
section
set_option inductive.autoPromoteIndices false in
set_option autoImplicit false in
inductive MemI (base : Heap) (L : Addr) (s₁ : Shared) (ps : List Nat) (it D7 : Addr) (x7 : List Value) (sc mem ord D dr : Addr) (ov ys dv : List Value) (no dn : Nat) (c7 c6 c5 cM cP cD : Obj)  : Nat → Shared → Prop
  | mk (j : Nat) (oi : Obj) (cx : Obj) (cv : Option Value) (mv : List Value) (ms : List Nat) (nm : Nat) (h : Heap) (tk : Nat) (u : Str → Option Value) (hc0 : j ≤ 7) (hc1 : IsIt oi D7 j) (hc2 : cx.data = .cell cv) (hc3 : Fr base L h (fun z => if z = Str.ofString "script" then some (.ref sc) else if z = Str.ofString "order" then some (.ref ord) else u z)) (hc4 : News base L h ((it, oi) :: (D7, W.listOf x7.toArray 0) :: (mem, W.listOf mv.toArray nm) :: (ord, W.listOf ov.toArray no) :: (D, W.listOf ys.toArray ys.length) :: (dr, W.listOf dv.toArray dn) :: (L + 1 + 1 + 1 + 1 + 1 + 1 + 1, c7) :: (L + 1 + 1 + 1 + 1 + 1 + 1, c6) :: (L + 1 + 1 + 1 + 1 + 1, c5) :: (L + 1 + 1 + 1 + 1, cx) :: (L + 1 + 1 + 1, cM) :: (L + 1 + 1, cP) :: (L + 1, cD) :: [(85, tabObj #[])])) (hc5 : IntsAre mv (ms.map fun (x : Nat) => (x : Int))) (hc6 : MemOk ps ms j) : MemI base L s₁ ps it D7 x7 sc mem ord D dr ov ys dv no dn c7 c6 c5 cM cP cD (7 - j) ({ s₁ with heap := h, toks := tk })
set_option autoImplicit false in
theorem MemI.all {base : Heap} {L : Addr} {s₁ : Shared} {ps : List Nat} {it : Addr} {D7 : Addr} {x7 : List Value} {sc : Addr} {mem : Addr} {ord : Addr} {D : Addr} {dr : Addr} {ov : List Value} {ys : List Value} {dv : List Value} {no : Nat} {dn : Nat} {c7 : Obj} {c6 : Obj} {c5 : Obj} {cM : Obj} {cP : Obj} {cD : Obj} {P : Nat → Shared → Prop} (h : ∀ (j : Nat) (oi : Obj) (cx : Obj) (cv : Option Value) (mv : List Value) (ms : List Nat) (nm : Nat) (h : Heap) (tk : Nat) (u : Str → Option Value) (hc0 : j ≤ 7) (hc1 : IsIt oi D7 j) (hc2 : cx.data = .cell cv) (hc3 : Fr base L h (fun z => if z = Str.ofString "script" then some (.ref sc) else if z = Str.ofString "order" then some (.ref ord) else u z)) (hc4 : News base L h ((it, oi) :: (D7, W.listOf x7.toArray 0) :: (mem, W.listOf mv.toArray nm) :: (ord, W.listOf ov.toArray no) :: (D, W.listOf ys.toArray ys.length) :: (dr, W.listOf dv.toArray dn) :: (L + 1 + 1 + 1 + 1 + 1 + 1 + 1, c7) :: (L + 1 + 1 + 1 + 1 + 1 + 1, c6) :: (L + 1 + 1 + 1 + 1 + 1, c5) :: (L + 1 + 1 + 1 + 1, cx) :: (L + 1 + 1 + 1, cM) :: (L + 1 + 1, cP) :: (L + 1, cD) :: [(85, tabObj #[])])) (hc5 : IntsAre mv (ms.map fun (x : Nat) => (x : Int))) (hc6 : MemOk ps ms j), P (7 - j) ({ s₁ with heap := h, toks := tk })) : ∀ (x0 : Nat) (x1 : Shared), MemI base L s₁ ps it D7 x7 sc mem ord D dr ov ys dv no dn c7 c6 c5 cM cP cD x0 x1 → P x0 x1 :=
  fun _ _ t => MemI.rec (motive := fun x0 x1 _ => P x0 x1) h t
theorem words_law_holds : True := by
  w_top off
  k_with_none
  k_with "mine ktr_room" => ((try simp only [depth_under_make, depth_under_kw, depth_in1, depth_deeper, depth_caller]); (try dsimp only [ktrTop]); first | decide | omega)
  k_with "mine ktr_units" => ((try simp only [units_in1, units_deeper, Around.mark_units, units_caller]); (try dsimp only [ktrTop]); first | (rw [cLine_is]; decide) | omega)
  k_with "mine call by" => ((case k1 => k_asm); (case k2 => kn_code); (case k3 => k_asm); (case k4 => k_asm); (case k5 => (refine' News.subs ?k51 ?k52; (case k51 => k_asm); (case k52 => ((repeat (refine List.forall_mem_cons.mpr (And.intro (by k_mem) ?_))); exact fun _ h => nomatch h)))); (case k6 => k_asm); (case k7 => first | exact rfl | assumption); (case k8 => ktr_room); (case k9 => ktr_units); (case kp => first | exact trivial | assumption))
  k_with "mine k_ne" => (first | exact Far.ne (by with_reducible assumption) (by k_mem) | exact Far.ne' (by with_reducible assumption) (by k_mem) | exact Nat.ne_of_gt (by k_extra "lts") | exact Nat.ne_of_lt (by k_extra "lts") | (refine ne_lits ?_; (try dsimp only); (simp; done)) | exact Far.ne (by assumption) (by k_mem) | exact Far.ne' (by assumption) (by k_mem) | exact Nat.ne_of_gt (by k_extra "lt") | exact Nat.ne_of_lt (by k_extra "lt"))
  k_with "binaryOp Add str str" => (refine PyProof.Rows.add_str (hsz := ?hszq) ?_; (case hszq => assumption); intro _ _)
  k_with "call builtin:hex" => (refine P.hex_of_int ?_ (hsz := ?hszq); (case hszq => assumption))
  k_with "call builtin:list.append" => (k_here; (with_reducible show wpAny _ _ (call (Value.builtin _) [Value.ref _, _]) _ _ _); k_dflt (refine' append_K ?k1 ?k2 ?k3 ?_ ?z; (case k1 => k_asm); (case k2 => k_asm); (case k3 => k_upd); (case z => assumption); k_whole); intro h9w F9w N9w; (try k_sweep))
  k_with "call builtin:dict.get" => (k_here; k_dflt (refine' flag_get ?k1 ?k2 ?k3 ?k4 ?_; (case k1 => k_asm); (case k2 => exact Fr.keep (by with_reducible assumption)); (case k3 => assumption); (case k4 => assumption)); intro t9w tk9w)
  k_with "exec For Name Call cons nil" => (refine for_raw ?_)
  k_with "exec For Name Call cons cons" => (refine for_raw ?_)
  k_with "exec For Name Name cons nil" => (refine for_raw ?_)
  k_with "exec For Name Subscript cons nil" => (refine for_raw ?_)
  k_with "exec While Name cons nil" => (refine Stop.out ?_)
  k_with "subscriptTail" => (k_here; (with_reducible show wpAny _ _ (subscriptTail _ (Expr.Slice _ _ none _) (Value.bytes _ _) (Value.ref _)) _ _ _); (with_reducible rename Fr _ _ _ _ => F9w); (with_reducible rename News _ _ _ _ => N9w); (refine KBy.slice_N (s := ⟨_, _, _, _, _⟩) F9w N9w (by constructor) (by constructor) (by assumption) (by assumption) ?_); intro _ _ _ _ _)
  k_with "binaryOp Add bytes bytes" => (k_here; (with_reducible show wpAny _ _ (binaryOp Operator.Add (Value.bytes _ _) (Value.bytes _ _)) _ _ _); (refine KBy.add_bytes (by assumption) ?_); intro _ _)
  k_with "mine enter" => (k_dflt (refine' enter_plain ?k1 ?k2 ?k3 ?k4 ?k5 ?kA ?kF ?kK ?k6 ?k7 ?k8 ?k9 ?kB ?hr ?_ ?c2 ?c3 ?c4 ?c5; (case kA => exact rfl); (case kF => exact rfl); (case kK => assumption); (case k1 => k_asm); (case k2 => k_asm); (case k3 => k_asm); (case k4 => k_asm); (case k5 => k_asm); (case k6 => k_is); (case k7 => k_is); (case k8 => ktr_room); (case k9 => exact BindsTo.of_eq rfl); (case c5 => decide); (case kB => exact locs rfl); (case hr => assumption); (case c2 => exact rfl); (case c3 => exact rfl); (case c4 => exact rfl); k_whole))
  k_with "mine cells" => (k_dflt (refine' enter_cells ?k1 ?k2 ?k3 ?k4 ?k5 ?kA ?kF ?kK ?k6 ?k7 ?k8 ?k9 ?kB ?kD ?hr ?_ ?c2 ?c3 ?c4; (case kA => exact rfl); (case kF => exact rfl); (case kK => assumption); (case k1 => k_asm); (case k2 => k_asm); (case k3 => k_asm); (case k4 => k_asm); (case k5 => k_asm); (case k6 => k_is); (case k7 => k_is); (case k8 => ktr_room); (case k9 => exact BindsTo.of_eq rfl); (case kB => exact rfl); (case kD => decide +kernel); (case hr => assumption); (case c2 => exact rfl); (case c3 => exact rfl); (case c4 => exact rfl); k_whole))
  k_with "mine made" => (k_dflt (refine' enter_made ?k1 ?k2 ?k3 ?k4 ?k5 ?kA ?kF ?kK ?k6 ?kd ?k7 ?k8 ?k9 ?kB ?hr ?_ ?c2 ?c3 ?c4 ?c5; (case kA => exact rfl); (case kF => exact rfl); (case kK => assumption); (case k1 => k_asm); (case k2 => k_asm); (case k3 => k_asm); (case k4 => k_asm); (case k5 => k_asm); (case k6 => k_mem); (case kd => exact rfl); (case k7 => exact codeRec_news (by k_asm) (by k_mem) (by assumption) (by assumption)); (case k8 => ktr_room); (case k9 => exact BindsTo.of_eq rfl); (case c5 => decide); (case kB => exact locs rfl); (case hr => assumption); (case c2 => exact rfl); (case c3 => exact rfl); (case c4 => exact rfl); k_whole))
  k_with "subscriptTail" => (k_here; (with_reducible show wpAny _ _ (subscriptTail _ (Expr.Slice _ _ none _) (Value.str _ _) (Value.ref _)) _ _ _); (with_reducible rename Fr _ _ _ _ => F9w); (with_reducible rename News _ _ _ _ => N9w); (first
  | ((with_reducible show wpAny _ _ (subscriptTail _ (Expr.Slice (some _) (some _) none _) _ _) _ _ _); (refine slice_strN_ss (hsz := ?hsz) (s := ⟨_, _, _, _, _⟩) F9w N9w ?_); (case hsz => assumption))
  | ((with_reducible show wpAny _ _ (subscriptTail _ (Expr.Slice none (some _) none _) _ _) _ _ _); (refine slice_strN_ns (hsz := ?hsz) (s := ⟨_, _, _, _, _⟩) F9w N9w ?_); (case hsz => assumption))); intro _ _ _ _ _)
  k_with "call builtin:len" => (k_here; (with_reducible show wpAny _ _ (call (Value.builtin "len") [Value.str _ _]) _ _ _); refine PyProof.Rows.len_str ?hfit ?_; (case hfit => first | exact len_fitS (by assumption) | exact len_fits (by assumption)))
  k_with "exec For Name Name cons cons" => (refine for_raw ?_)
  k_with "call builtin:iter" => (k_here; (with_reducible show wpAny _ _ (call (Value.builtin _) [Value.ref _, Value.str _ _]) _ _ _); k_dflt (refine' call_iter2 ?k1 ?k2 ?k3 ?_; (case k1 => k_asm); (case k2 => k_asm); (case k3 => k_mem); k_whole); intro it9w h9w F9w N9w l9w G9w; (try k_lt l9w))
  k_with "inplaceOp Add str str" => (refine PyProof.Rows.iadd_str (hsz := ?hszi) ?_; (case hszi => assumption); intro _ _)
  k_with "call type:enumerate" => (k_here; k_dflt (refine' call_enum ?k1 ?k2 ?k3 ?_; (case k1 => k_asm); (case k2 => k_asm); (case k3 => k_mem); k_whole))
  k_with "call type:zip" => (k_here; k_dflt (refine' call_zip ?k1 ?k2 ?k3 ?k4 ?_; (case k1 => k_asm); (case k2 => k_asm); (case k3 => k_mem); (case k4 => k_mem); k_whole))
  k_with "exec For Tuple Call cons nil" => (refine for_pair ?_)
  k_with "exec For Tuple Call cons cons" => (refine for_pair ?_)
  k_with "setItem ref int" => (k_here; k_dflt (refine' set_list ?F ?N ?k ?U ?_; (case F => k_asm); (case N => k_asm); (case U => k_upd); (case k => assumption)); intro h9w F9w N9w; (try dsimp only [List.nil_append, List.cons_append] at N9w))
  k_with "call builtin:list.insert" => (k_here; (with_reducible show wpAny _ _ (call (Value.builtin _) [Value.ref _, Value.int _ _, _]) _ _ _); k_dflt (refine' ins_list ?F ?N ?k ?U ?_; (case F => k_asm); (case N => k_asm); (case U => k_upd); (case k => assumption)); intro h9w F9w N9w; (try dsimp only [List.nil_append, List.cons_append] at N9w))
  k_with "call ref" => (refine Stop.out ?_)
  k_with "eval ListComp" => (refine Stop.out ?_)
  k_with "CompSrcT" => (refine Stop.out ?_)
  k_with "CompSrc" => (refine Stop.out ?_)
  k_with "binaryOp Pow int int" => (refine Stop.out ?_)
  k_with "compareOp NotIn int ref" => (refine Stop.out ?_)
  k_with "call builtin:bytes.decode" => (refine Stop.out ?_)
  k_with "call builtin:str.join" => (refine Stop.out ?_)
  k_with "exec For Name Name cons nil" => (refine Stop.out ?_)
  k_with "call builtin:str.count" => (refine Stop.out ?_)
  k_with "call builtin:sum" => (refine Stop.out ?_)
  k_with "exec For Name Subscript cons nil" => (refine Stop.out ?_)
  k_with "call type:set" => (refine Stop.out ?_)
  k_with "call builtin:sorted" => (refine Stop.out ?_)
  k_with "compareOp NotEq ref ref" => (refine Stop.out ?_)
  k_with "compareOp Eq ref ref" => (refine Stop.out ?_)
  k_with "lts" => (first | with_reducible assumption | exact nat_lt1 _ | exact nat_ltS (nat_lt1 _) | exact nat_ltS (nat_ltS (nat_lt1 _)) | exact nat_ltS (nat_ltS (nat_ltS (nat_lt1 _))) | exact nat_ltS (nat_ltS (nat_ltS (nat_ltS (nat_lt1 _)))) | exact nat_ltS (nat_ltS (nat_ltS (nat_ltS (nat_ltS (nat_lt1 _))))) | exact nat_ltS (nat_ltS (nat_ltS (nat_ltS (nat_ltS (nat_ltS (nat_lt1 _)))))) | exact nat_ltS (nat_ltS (nat_ltS (nat_ltS (nat_ltS (nat_ltS (nat_ltS (nat_lt1 _))))))))
  k_with "lt0" => (first | with_reducible assumption | exact And.left (by with_reducible assumption) | exact And.left (And.right (by with_reducible assumption)) | exact And.left (And.right (And.right (by with_reducible assumption))) | exact And.left (And.right (And.right (And.right (by with_reducible assumption)))) | exact And.left (And.right (And.right (And.right (And.right (by with_reducible assumption))))) | exact And.left (And.right (And.right (And.right (And.right (And.right (by with_reducible assumption)))))) | exact And.left (And.right (And.right (And.right (And.right (And.right (And.right (by with_reducible assumption))))))) | exact And.left (And.right (And.right (And.right (And.right (And.right (And.right (And.right (by with_reducible assumption)))))))) | exact And.left (And.right (And.right (And.right (And.right (And.right (And.right (And.right (And.right (by with_reducible assumption))))))))) | exact And.left (And.right (And.right (And.right (And.right (And.right (And.right (And.right (And.right (And.right (by with_reducible assumption)))))))))) | exact And.left (And.right (And.right (And.right (And.right (And.right (And.right (And.right (And.right (And.right (And.right (by with_reducible assumption))))))))))) | exact And.left (And.right (And.right (And.right (And.right (And.right (And.right (And.right (And.right (And.right (And.right (And.right (by with_reducible assumption)))))))))))) | exact And.right (by with_reducible assumption) | exact And.right (And.right (by with_reducible assumption)) | exact And.right (And.right (And.right (by with_reducible assumption))) | exact And.right (And.right (And.right (And.right (by with_reducible assumption)))) | exact And.right (And.right (And.right (And.right (And.right (by with_reducible assumption))))) | exact And.right (And.right (And.right (And.right (And.right (And.right (by with_reducible assumption)))))) | exact And.right (And.right (And.right (And.right (And.right (And.right (And.right (by with_reducible assumption))))))) | exact And.right (And.right (And.right (And.right (And.right (And.right (And.right (And.right (by with_reducible assumption)))))))) | exact And.right (And.right (And.right (And.right (And.right (And.right (And.right (And.right (And.right (by with_reducible assumption))))))))) | exact And.right (And.right (And.right (And.right (And.right (And.right (And.right (And.right (And.right (And.right (by with_reducible assumption)))))))))) | exact And.right (And.right (And.right (And.right (And.right (And.right (And.right (And.right (And.right (And.right (And.right (by with_reducible assumption))))))))))) | exact nat_lt1 _)
  k_with "ch" => (first | with_reducible assumption | (refine Nat.lt_trans (by with_reducible assumption) ?_; k_extra "ch"))
  k_with "lt" => (first | k_extra "lt0" | exact nat_ltS (by k_extra "lt0") | exact nat_ltS (nat_ltS (by k_extra "lt0")) | exact nat_ltS (nat_ltS (nat_ltS (by k_extra "lt0"))) | exact nat_ltS (nat_ltS (nat_ltS (nat_ltS (by k_extra "lt0")))) | exact nat_ltS (nat_ltS (nat_ltS (nat_ltS (nat_ltS (by k_extra "lt0"))))) | exact nat_ltS (nat_ltS (nat_ltS (nat_ltS (nat_ltS (nat_ltS (by k_extra "lt0")))))) | exact nat_ltS (nat_ltS (nat_ltS (nat_ltS (nat_ltS (nat_ltS (nat_ltS (by k_extra "lt0"))))))) | exact nat_ltS (nat_ltS (nat_ltS (nat_ltS (nat_ltS (nat_ltS (nat_ltS (nat_ltS (by k_extra "lt0")))))))) | k_extra "ch")
  k_with "omegaL" => (first
    | with_reducible assumption
    | exact Nat.ne_of_lt (by with_reducible assumption) | exact Nat.ne_of_gt (by with_reducible assumption)
    | exact nat_room2 (by with_reducible assumption) (by rfl) | exact nat_room1 (by with_reducible assumption) (by rfl) | exact nat_room3 (by with_reducible assumption) (by rfl) | exact nat_room0 (by with_reducible assumption)
    | exact nat_meas (by with_reducible assumption) | exact nat_meas (Nat.lt_succ_of_lt (by with_reducible assumption))
    | exact c_low (by with_reducible assumption) (by rfl) | exact c_high (by with_reducible assumption) (by rfl) | exact c_lt (by with_reducible assumption) (by rfl)
    | exact Nat.succ_le_of_lt (by with_reducible assumption) | exact Nat.lt_succ_of_le (by with_reducible assumption)
    | exact And.intro (by k_extra "lt") (by k_extra "lt")
    | exact Int.natCast_nonneg _ | exact Int.ofNat_lt.mpr (by with_reducible assumption) | exact Int.ofNat_le.mpr (by with_reducible assumption) | exact int_lt (by with_reducible assumption) (by decide) | exact int_le (by with_reducible assumption) (by decide) | exact Int.lt_of_lt_of_le (by with_reducible assumption) (by decide) | exact Int.le_trans (Int.le_of_lt (by with_reducible assumption)) (by decide)
    | exact Nat.ne_of_lt (by k_extra "lt") | exact Nat.ne_of_gt (by k_extra "lt") | k_extra "lt"
    | exact Nat.le_trans (by with_reducible assumption) (by decide) | exact nat_eqle (by with_reducible assumption) (by decide) | exact Nat.le_trans (Nat.succ_le_succ (by with_reducible assumption)) (by decide) | exact Nat.le_of_lt (by with_reducible assumption) | exact Nat.le_of_eq (by with_reducible assumption)
    | decide)
  exact True.intro
set_option maxRecDepth 100000 in
set_option maxHeartbeats 8000000 in
noncomputable def law_a : PSigma fun R : Prop => Cut R → Challenge.rw_ty0007_01.Holds := by
  apply PSigma.mk
  case snd =>
    intro hCut
    refine hd ?_
    k_go0
    rename_i w s₀ s₁ mg mb G Y fa o pm cd doc ho hcd hg X V T B TE TW ns hs hlay0 hLa hr hl2 zz1 zz2 sc vs zz3 hLi ra w1 r0 hI hr2 hcond1 hcond2 hD h₁ tk₁ c7 c6 c5 c4 c3 c2 c1 d7 d6 d5 d4 d3 d2 d1 X0 X' T' K' F' N' l0
    clear G Y ho hcd hT8 X V T B TE TW hT9 hs hlay0 hLa hr hl2 ra w1 r0 hr2 hcond2 hD X0
    have q7 : ∃ v, c7.data = .cell v := ⟨_, d7⟩
    clear d7
    obtain ⟨e7, d7⟩ := q7
    have q6 : ∃ v, c6.data = .cell v := ⟨_, d6⟩
    clear d6
    obtain ⟨e6, d6⟩ := q6
    have q5 : ∃ v, c5.data = .cell v := ⟨_, d5⟩
    clear d5
    obtain ⟨e5, d5⟩ := q5
    have q4 : ∃ v, c4.data = .cell v := ⟨_, d4⟩
    clear d4
    obtain ⟨e4, d4⟩ := q4
    have q3 : ∃ v, c3.data = .cell v := ⟨_, d3⟩
    clear d3
    obtain ⟨e3, d3⟩ := q3
    have q2 : ∃ v, c2.data = .cell v := ⟨_, d2⟩
    clear d2
    obtain ⟨e2, d2⟩ := q2
    have q1 : ∃ v, c1.data = .cell v := ⟨_, d1⟩
    clear d1
    obtain ⟨e1, d1⟩ := q1
    have qF : ∃ u : Str → Option Value, Fr (ghostOf s₁.heap [(89, 85)]) s₁.heap.objs.size h₁ (fun z => if z = Str.ofString "script" then some (.ref sc) else u z) := ⟨_, fr_map1 F' (Str.ofString "script") rfl⟩
    clear F'
    obtain ⟨u, F1⟩ := qF
    generalize ghostOf s₁.heap [(89, 85)] = base at X' T' K' F1 lifted codeHd N' ⊢
    generalize s₁.heap.objs.size = L at F1 N' l0 ⊢
    have hvl := ints_len hI
    k_steps
    unfold Stop
    exact by
      (with_reducible rename News _ _ _ _ => NA)
      refine name_top NA ?_
      intro dr dv0 en1 en2
      subst en1
      have nsc : sc ≠ dr := fun e => by
        obtain ⟨o, e1, _⟩ := lifted
        have := (NA _ List.mem_cons_self).2.2
        dsimp only at this
        rw [← e, e1] at this; cases this
      subst en2
      (with_reducible rename Fr _ _ _ _ => FA)
      have hsl := FA.lst lifted
      k_call_by "mine" (drawn_spec w _ _ _ _ _ sc dr vs ns hI (by (first | k_extra "omegaL" | omega)) _ [11, 6, 13, 3, 9, 14, 5, 0, 0] (.cons _ _ (.cons _ _ (.cons _ _ (.cons _ _ (.cons _ _ (.cons _ _ (.cons _ _ (.cons _ _ (.cons _ _ .nil))))))))) rfl 0 nsc)
      refine DrawnRet.all ?_
      intro dv de dn hde hd9 h7 tk7 F7 N7 G7 O7
      have nd : ∀ x, @LT.lt Nat _ x dr → x ∉ [dr] := fun x hx => by
        simp only [List.mem_cons, List.not_mem_nil, or_false]; exact Nat.ne_of_lt hx
      have N8 := News.join (rest := [(L + 1 + 1 + 1 + 1 + 1 + 1 + 1, c7), (L + 1 + 1 + 1 + 1 + 1 + 1, c6), (L + 1 + 1 + 1 + 1 + 1, c5), (L + 1 + 1 + 1 + 1, c4), (L + 1 + 1 + 1, c3), (L + 1 + 1, c2), (L + 1, c1), (85, tabObj #[])]) NA G7 N7
        (by (repeat (refine List.forall_mem_cons.mpr (And.intro (by k_mem) ?_))); exact fun _ h => nomatch h) (by (repeat (refine List.forall_mem_cons.mpr (And.intro (nd _ (by (first | k_extra "omegaL" | omega))) ?_))); exact fun _ h => nomatch h)
      clear N7 G7 O7 NA hsl FA
      simp only [List.cons_append, List.nil_append] at N8
      k_steps
      unfold Stop
      exact by
        (with_reducible rename News _ _ _ _ => NB)
        refine name_obj NB (x := L + 1) (by k_mem) ?_
        intro cD en
        subst en
        refine LCg.ListComp_U (F₀ := by k_asm) (by with_unfolding_all rfl) (by decide) (by rfl) (by decide) (by rfl) ?_
        k_steps
        unfold Stop
        exact by
          (with_reducible rename News _ _ _ _ => NB)
          (with_reducible rename IsRange _ _ _ _ _ _ _ _ => rg)
          refine LCg.CompSrc.range (by rfl) (by k_asm) NB rg (by decide) (n := 4) (by decide) (by decide) ?_
          intro g8
          refine comp_rest (SameI _ fun i => ((List.range i).map (plI de))) (.mk .nil) ?_ ?_
          · intro i v I oI C oC D m₂ hh tk E' hi
            intro ys
            refine SameI.all ?_
            rintro hys ⟨tv, rfl⟩ hoC hx F N off ne
            have hi4 : i < 4 := hi
            k_steps
            unfold Stop
            exact by
              refine LCg.ListComp_U (F₀ := by k_asm) (by with_unfolding_all rfl) (by decide) (by rfl) (by decide) (by rfl) ?_
              k_steps
              unfold Stop
              exact by
                (with_reducible rename News _ _ _ _ => NB2)
                (with_reducible rename IsRange _ _ _ _ _ _ _ _ => rg2)
                refine LCg.CompSrc.range (by rfl) (by k_asm) NB2 rg2 (rg_small i hi4) (n := i + 1) (rg_size i hi4) (by rw [PySem.sizeLine_eq]; (first | k_extra "omegaL" | omega)) ?_
                intro g9
                refine comp_rest (SameI _ fun i2 => ((List.range i2).map (digI de))) (.mk .nil) ?_ ?_
                · intro i2 v I2 oI2 C2 oC2 D2 m₃ hh2 tk2 E2 hi2
                  intro ys2
                  refine SameI.all ?_
                  rintro hys2 ⟨tv2, rfl⟩ hoC2 hx2 F2 N2 off2 ne2
                  have hi24 : i2 < 4 := by (first | k_extra "omegaL" | omega)
                  k_steps
                  unfold Stop
                  exact by
                    refine pow_int_small (by (first | k_extra "omegaL" | omega)) (by (first | k_extra "omegaL" | omega)) (by decide) ?_
                    have hb0 : (4 : Int) ^ ((0 : Int) + (i2 : Int)).toNat ≠ 0 := Int.ne_of_gt (Int.pow_pos (by decide))
                    have hlog : ((4 : Int) ^ ((0 : Int) + (i2 : Int)).toNat).natAbs.log2 < 9000 := log4 i2 hi24
                    generalize hP : (4 : Int) ^ ((0 : Int) + (i2 : Int)).toNat = P at hb0 hlog ⊢
                    k_steps
                    refine floordiv_int hb0 ?_ (Or.inl (PyProof.noPylong_of_log2 hlog))
                    k_steps
                    refine comp_end (by assumption) (by assumption) off2 (trivial) (.mk ?_)
                    rw [List.range_succ, List.map_append]
                    refine ints_snoc hys2 ?_
                    unfold digI
                    rw [← hP, show ((0 : Int) + (i2 : Int)).toNat = i2 by (first | k_extra "omegaL" | omega)]
                    rfl
                · intro ys2
                  refine SameI.all ?_
                  intro hys2
                  intro D2 hh2 tk2 F2 N2 off2
                  clear off2
                  k_steps
                  unfold Stop
                  exact by
                    (with_reducible rename News _ _ _ _ => NB3)
                    refine sumK (by rfl) (by k_asm) NB3 (News.isList NB3 (by k_mem)) hys2 ?_
                    intro hs2 tks2 ts2 Fs2 Ns2
                    k_steps
                    (with_reducible rename Fr _ _ _ _ => F9)
                    (with_reducible rename News _ _ _ _ => N9)
                    refine LCg.CompEnd.intro F9 N9 _ (fun q hq => List.mem_cons_of_mem _ hq) off trivial (.mk ?_)
                    have epl : (List.range (i + 1)).map (plI de) = (List.range i).map (plI de) ++ [plI de i] := by rw [List.range_succ, List.map_append]; rfl
                    rw [epl]
                    exact ints_snoc hys rfl
          · intro ys
            refine SameI.all ?_
            intro hys
            intro D hh tk F N off
            have fD := far_of off
            simp only [List.map_cons, List.map_nil] at fD
            clear off
            k_steps
            unfold Stop
            exact by
              obtain ⟨ps, hpl, hp4, hps, hp16⟩ := places_nat de
              have hys4 : IntsAre ys (ps.map fun (x : Nat) => (x : Int)) := hpl ▸ hys
              have hlm : (ps.map fun (x : Nat) => (x : Int)).length = 4 := by rw [List.length_map, hp4]
              (with_reducible rename News _ _ _ _ => NA)
              refine name_obj NA (x := L + 1 + 1) (by k_mem) ?_
              intro cP en
              subst en
              k_call_by "mine" (order_spec w _ _ _ _ _ D ys ps hys4 hp4 ys.length _ _)
              refine OrderRet.all ?_
              intro ord os ov no hperm hov h7 tk7 F7 N7 G7 O7
              have fO := far_ret NA O7 List.mem_cons_self [(dr, W.listOf dv.toArray dn), (L + 1 + 1 + 1 + 1 + 1 + 1 + 1, c7), (L + 1 + 1 + 1 + 1 + 1 + 1, c6), (L + 1 + 1 + 1 + 1 + 1, c5), (L + 1 + 1 + 1 + 1, c4), (L + 1 + 1 + 1, c3), (L + 1 + 1, cP), (L + 1, cD), (85, tabObj #[])] (by (repeat (refine List.forall_mem_cons.mpr (And.intro (by k_mem) ?_))); exact fun _ h => nomatch h) (far_one fD)
              have N8 := News.join (rest := [(dr, W.listOf dv.toArray dn), (L + 1 + 1 + 1 + 1 + 1 + 1 + 1, c7), (L + 1 + 1 + 1 + 1 + 1 + 1, c6), (L + 1 + 1 + 1 + 1 + 1, c5), (L + 1 + 1 + 1 + 1, c4), (L + 1 + 1 + 1, c3), (L + 1 + 1, cP), (L + 1, cD), (85, tabObj #[])]) NA G7 N7
                (by (repeat (refine List.forall_mem_cons.mpr (And.intro (by k_mem) ?_))); exact fun _ h => nomatch h) (far_one fD)
              clear N7 G7 O7 NA hpl hys rg nd
              simp only [List.map_cons, List.map_nil] at fO
              simp only [List.cons_append, List.nil_append] at N8
              k_steps
              unfold Stop
              exact by
                (with_reducible rename News _ _ _ _ => NA)
                refine name_obj NA (x := L + 1 + 1 + 1) (by k_mem) ?_
                intro cM en
                subst en
                refine name_top NA ?_
                intro mem mv0 en1 en2
                subst en1
                subst en2
                refine wpAny_mono (for_raw ?_) (fun _ _ z => z) (fun _ _ z => z.elim)
                k_steps
                (with_reducible rename IntsAre _ (List.take 7 de) => hI7)
                (with_reducible rename News _ _ _ _ => NB)
                refine name_top NB ?_
                intro D7 x7 en1 en2
                subst en1
                subst en2
                refine iter_list (by k_asm) NB (News.isList NB (by k_mem)) ?_
                intro it oi h2 hi2 F2 N2 l2 G2
                k_lt l2
                have h77 : (de.take 7).length = 7 := by rw [List.length_take]; (first | k_extra "omegaL" | omega)
                have hx7l : x7.length = 7 := by rw [ints_len hI7, h77]
                clear G2
                refine ⟨MemI base L s₁ ps it D7 x7 sc mem ord D dr ov ys dv no dn c7 c6 c5 cM cP cD, 7, ?_, ?_⟩
                · exact ⟨0, oi, c4, e4, [], [], 0, h2, _, _, Nat.zero_le _, hi2, d4, fr_map2 F2 (Str.ofString "script") (Str.ofString "order") rfl rfl, N2, .nil, ⟨List.nodup_nil, Nat.le_refl _, (fun _ h => nomatch h), (fun _ h => nomatch h)⟩⟩
                · refine MemI.all ?_
                  intro j oi cx cv mv ms nm h tk u2 hj hi3 dx F3 N3 hmv hok
                  have hml : ms.length ≤ 7 := Nat.le_trans hok.len hj
                  have hmvl : mv.length = ms.length := by rw [ints_len hmv, List.length_map]
                  refine next_list rfl hi3 F3 N3 (by (repeat (refine List.forall_mem_cons.mpr (And.intro (by show @Ne Nat _ _; (first | k_extra "omegaL" | omega)) ?_))); exact fun _ h => nomatch h) (News.isList N3 (by k_mem)) ?_ ?_
                  · intro v oi' h4 hv4 hi4 F4 N4 G4
                    obtain ⟨xv, tx, hxv, rfl⟩ := ints_at hI7 (by simpa using hv4)
                    have hj7 : j < 7 := by
                      have := (List.getElem?_eq_some_iff.mp hxv).1
                      (first | k_extra "omegaL" | omega)
                    have hzm : mv.toArray.size ≤ sizeLine := by rw [List.size_toArray, PySem.sizeLine_eq]; (first | k_extra "omegaL" | omega)
                    dsimp only [ForTurn]
                    k_steps
                    unfold Stop
                    exact by
                      refine LCt.ListComp_T (F₀ := by k_asm) (by with_unfolding_all rfl) (by decide) (by rfl) (by decide) (by rfl) ?_
                      k_steps
                      unfold Stop
                      exact by
                        (with_reducible rename News _ _ _ _ => NB)
                        (with_reducible rename IsRange _ _ _ _ _ _ _ _ => rg)
                        refine LCt.CompSrcT.range (by rfl) (by k_asm) NB rg (by decide) (n := 4) (by decide) (by decide) ?_
                        intro g8
                        refine comp_restT (SameI _ fun i => ((pick ps xv i).map fun q => (2 : Int) ^ q)) (.mk .nil) ?_ ?_
                        · intro i v I oI C oC D2 m₂ hh tk E' hi
                          intro zs
                          refine SameI.all ?_
                          rintro hzs ⟨tv, rfl⟩ hoC hx F9 N9 off9 ne9
                          have hi4' : i < 4 := hi
                          have hgp : (List.map (fun (x : Nat) => (x : Int)) ps).getD ((0 : Int) + (i : Int)).toNat 0 = ((ps.getD i 0 : Nat) : Int) := by
                            have hip : i < ps.length := by (first | k_extra "omegaL" | omega)
                            rw [show ((0 : Int) + (i : Int)).toNat = i by (first | k_extra "omegaL" | omega)]
                            simp [List.getD_eq_getElem?_getD, List.getElem?_eq_getElem hip]
                          have hg16 : ps.getD i 0 < 16 := by
                            have hip : i < ps.length := by (first | k_extra "omegaL" | omega)
                            have : ps.getD i 0 = ps[i] := by simp [List.getD_eq_getElem?_getD, List.getElem?_eq_getElem hip]
                            rw [this]; exact hp16 _ (List.getElem_mem hip)
                          k_steps
                          unfold Stop
                          exact by
                            refine pow_int_small (by (first | k_extra "omegaL" | omega)) (by (first | k_extra "omegaL" | omega)) (by decide) ?_
                            have hb0 : (2 : Int) ^ ((0 : Int) + (i : Int)).toNat ≠ 0 := Int.ne_of_gt (Int.pow_pos (by decide))
                            have hlog : ((2 : Int) ^ ((0 : Int) + (i : Int)).toNat).natAbs.log2 < 9000 := log2s i hi4'
                            generalize hP : (2 : Int) ^ ((0 : Int) + (i : Int)).toNat = P at hb0 hlog ⊢
                            rw [show ((0 : Int) + (i : Int)).toNat = i by (first | k_extra "omegaL" | omega)] at hP
                            k_steps
                            refine floordiv_int hb0 ?_ (Or.inl (PyProof.noPylong_of_log2 hlog))
                            k_steps
                            · unfold Stop
                              exact by
                                rw [hgp]
                                refine pow_int_small (by (first | k_extra "omegaL" | omega)) (by (first | k_extra "omegaL" | omega)) (by decide) ?_
                                k_steps
                                have htb : tb xv i = true := by
                                  unfold tb; rw [hP]; exact decide_eq_true (by assumption)
                                refine comp_end (by assumption) (by assumption) off9 (trivial) (.mk ?_)
                                have ep : pick ps xv (i + 1) = pick ps xv i ++ [ps.getD i 0] := by
                                  unfold pick; rw [List.range_succ, List.filter_append]; simp [htb]
                                rw [ep, List.map_append]
                                exact ints_snoc hzs (by rw [Int.toNat_natCast])
                            · have htb : tb xv i = false := by
                                unfold tb; rw [hP]; exact decide_eq_false (by assumption)
                              refine comp_end (by assumption) (by assumption) off9 (trivial) (.mk ?_)
                              have ep : pick ps xv (i + 1) = pick ps xv i := by
                                unfold pick; rw [List.range_succ, List.filter_append]; simp [htb]
                              rw [ep]
                              exact hzs
                        · intro zs
                          refine SameI.all ?_
                          intro hzs
                          intro D2 hh tk F9 N9 off9
                          clear off9
                          k_steps
                          unfold Stop
                          exact by
                            (with_reducible rename News _ _ _ _ => NB3)
                            refine sumK (by rfl) (by k_asm) NB3 (News.isList NB3 (by k_mem)) hzs ?_
                            intro hs2 tks2 ts2 Fs2 Ns2
                            have Ns3 : News base L hs2 _ := fun p hp => Ns2 p (List.mem_cons_of_mem _ hp)
                            clear Ns2 NB3
                            rw [sum_cast]
                            k_steps
                            unfold Stop
                            exact by
                              (with_reducible rename News _ _ _ _ => NC)
                              refine notin_list_ints (News.isList NC (by k_mem)) hmv ?_
                              rw [ints_any]
                              have hFok := memF_ok ps xv hp4 hps hp16
                              by_cases hin : memF ps xv ∈ ms
                              · rw [decide_eq_true (show sumPow (pick ps xv 4) ∈ ms from hin), Bool.not_true]
                                k_steps
                                (with_reducible rename Fr _ _ _ _ => F10)
                                (with_reducible rename News _ _ _ _ => N10)
                                exact ⟨7 - (j + 1), by (first | k_extra "omegaL" | omega), j + 1, oi', _, _, mv, ms, nm, _, _, _, by (first | k_extra "omegaL" | omega), hi4, (by assumption), fr_map2 F10 (Str.ofString "script") (Str.ofString "order") rfl rfl, N10, hmv, ⟨hok.nodup, by have := hok.len; (first | k_extra "omegaL" | omega), hok.bits, hok.small⟩⟩
                              · rw [decide_eq_false (show ¬ sumPow (pick ps xv 4) ∈ ms from hin), Bool.not_false]
                                k_steps
                                (with_reducible rename Fr _ _ _ _ => F10)
                                (with_reducible rename News _ _ _ _ => N10)
                                simp only [List.push_toArray] at N10
                                exact ⟨7 - (j + 1), by (first | k_extra "omegaL" | omega), j + 1, oi', _, _, _, ms ++ [memF ps xv], nm + 1, _, _, _, by (first | k_extra "omegaL" | omega), hi4, (by assumption), fr_map2 F10 (Str.ofString "script") (Str.ofString "order") rfl rfl, N10, (by rw [List.map_append]; exact hmv.append (.cons _ _ .nil)), hok.add hin hFok.1 hFok.2⟩
                  · intro h4 hv4 F4 N4 G4
                    clear hv4 G4
                    (with_reducible rename (@LT.lt Nat _ mem D7 ∧ _) => lD7)
                    (with_reducible rename (@LT.lt Nat _ ord mem ∧ _) => lmem)
                    (with_reducible rename (List.length (List.take 7 de) = _) => z1)
                    (with_reducible rename (List.length (List.take 7 de) ≤ _) => z2)
                    (with_reducible rename (@LT.lt Nat _ (L + 1 + 1 + 1 + 1 + 1 + 1 + 1) dr ∧ _) => ldr)
                    have l85m : @LT.lt Nat _ 85 mem := lmem.2.2.2.2.2.2.2.2.2.2
                    have l85d : @LT.lt Nat _ 85 dr := ldr.2.2.2.2.2.2.2
                    have N5 : News base L h4 _ := fun p hp => N4 p (List.mem_cons_of_mem _ hp)
                    clear lD7 l2 z1 z2 hx7l hI7 N4
                    dsimp only [ForTurn]
                    k_steps
                    unfold Stop
                    exact by
                      have hmlm : (ms.map fun (x : Nat) => (x : Int)).length = ms.length := List.length_map _
                      refine LCg.ListComp_U (F₀ := by k_asm) (by with_unfolding_all rfl) (by decide) (by rfl) (by decide) (by rfl) ?_
                      k_steps
                      unfold Stop
                      exact by
                        (with_reducible rename News _ _ _ _ => NB)
                        (with_reducible rename IsRange _ _ _ _ _ _ _ _ => rg)
                        rw [List.length_map] at rg
                        refine LCg.CompSrc.range (by rfl) (by k_asm) NB rg (rg_small0 _ hml) (n := ms.length) (rg_size0 _ hml) (by rw [PySem.sizeLine_eq]; (first | k_extra "omegaL" | omega)) ?_
                        intro g8
                        refine comp_rest (SameJ _ fun i => (((List.range i).map (pieceL ms de)).map strOf)) (.mk .nil) ?_ ?_
                        · intro i v I oI C oC D2 m₂ hh tk E' hi
                          intro zs
                          refine SameJ.all ?_
                          rintro hzs ⟨tv, rfl⟩ hoC hx F9 N9 off9 ne9
                          have hgm := get_cast ms i hi
                          have hMs := hok.small _ (getD_mem ms i hi)
                          k_steps
                          unfold Stop
                          exact by
                            rw [hgm]
                            (with_reducible rename News _ _ _ _ => NA)
                            k_call_by "mine" (ap_spec w _ _ _ _ _ (ms.getD i 0) _ hMs)
                            refine ValRet.all ?_
                            intro t7 h7 tk7 F7 N7 G7 O7
                            have N8 := News.keep0 NA G7
                            clear N7 G7 O7 NA
                            k_steps
                            unfold Stop
                            exact by
                              refine decode_ap (apL_ok _ hMs) (apL_len _ hMs) ?_
                              intro tD kD
                              k_steps
                              unfold Stop
                              exact by
                                rw [yI_eq]
                                (with_reducible rename News _ _ _ _ => NA)
                                k_call_by "mine" (written_spec w _ _ _ _ _ (apL (ms.getD i 0)) tD (yI de i) _ (apL_ok _ hMs) (apL_len _ hMs) (yI_lt de i))
                                refine ValRet.all ?_
                                intro t7 h7 tk7 F7 N7 G7 O7
                                have N8 := News.keep0 NA G7
                                clear N7 G7 O7 NA
                                refine comp_end F7 N8 off9 (trivial) (.mk ?_)
                                rw [List.range_succ, List.map_append, List.map_append]
                                exact hzs.append' (.cons _ _ .nil)
                        · intro zs
                          refine SameJ.all ?_
                          intro hzs
                          intro D2 hh tk F9 N9 off9
                          clear off9
                          k_steps
                          unfold Stop
                          exact by
                            (with_reducible rename News _ _ _ _ => NB3)
                            refine join_listC (News.isList NB3 (by k_mem)) hzs (by decide) (by have := pieces_sum ms de hok.small ms.length; rw [List.length_map, List.length_map, List.length_range]; (first | k_extra "omegaL" | omega)) ?_
                            intro tJ kJ
                            have hjn : Txt.join (Str.ofString "") (((List.range ms.length).map (pieceL ms de)).map strOf) = strOf (textL (wsOf ms de)) := by rw [join_none, text_eq]
                            rw [hjn]
                            have NT : News base L _ _ := fun p hp => NB3 p (List.mem_cons_of_mem _ hp)
                            clear NB3 NB rg
                            have hwok := ws_ok ms de hok.small
                            have hwl : (wsOf ms de).length = ms.length := by unfold wsOf; rw [List.length_map, List.length_range]
                            have htl : (textL (wsOf ms de)).length ≤ 400 := by
                              have := text_len (wsOf ms de) (fun q hq => (hwok q hq).2.1)
                              (first | k_extra "omegaL" | omega)
                            have hta := text_ascii (wsOf ms de) (fun q hq => (hwok q hq).1)
                            k_steps
                            unfold Stop
                            exact by
                              (with_reducible rename News _ _ _ _ => NA)
                              k_call_by "mine" (lexer_spec w _ _ _ _ _ (textL (wsOf ms de)) _ hta htl)
                              refine LexRet.all ?_
                              intro tup a tl tp nl np tb ho htup hread h85c h7 tk7 F7 N7 G7 O7
                              have hb85 : ∀ p ∈ [(mem, W.listOf mv.toArray nm), (D, W.listOf ys.toArray ys.length), (ord, W.listOf ov.toArray no), (dr, W.listOf dv.toArray dn), (L + 1 + 1 + 1 + 1 + 1 + 1 + 1, c7), (L + 1 + 1 + 1 + 1 + 1 + 1, c6), (L + 1 + 1 + 1 + 1 + 1, c5), (L + 1 + 1 + 1 + 1, cx), (L + 1 + 1 + 1, cM), (L + 1 + 1, cP), (L + 1, cD)], p.1 ∉ [85] := by
                                have nn : ∀ x, @LT.lt Nat _ 85 x → x ∉ [85] := fun x hx e => (Nat.ne_of_lt hx) (List.mem_singleton.mp e).symm
                                have no1 : ord ∉ [85] := fun e => fO 85 (by simp) (List.mem_singleton.mp e).symm
                                have nD1 : D ∉ [85] := fun e => fD 85 (by simp) (List.mem_singleton.mp e).symm
                                refine List.forall_mem_cons.mpr ⟨nn _ l85m, List.forall_mem_cons.mpr ⟨nD1, List.forall_mem_cons.mpr ⟨no1, List.forall_mem_cons.mpr ⟨nn _ l85d, ?_⟩⟩⟩⟩
                                (repeat (refine List.forall_mem_cons.mpr (And.intro (nn _ (by (repeat (first | exact l0 | refine Nat.lt_succ_of_lt ?_)))) ?_)))
                                exact fun _ h => nomatch h
                              have fB : ∀ y oy, (y, oy) ∈ (tup, ({ cls := .type "tuple", data := .seq #[.ref a.lx, .ref a.pl] } : Obj)) :: lexN w a 1 tl #[] nl 0 tp np ++ [(85, tabObj tb)] → Far y (([(mem, W.listOf mv.toArray nm), (D, W.listOf ys.toArray ys.length), (ord, W.listOf ov.toArray no), (dr, W.listOf dv.toArray dn), (L + 1 + 1 + 1 + 1 + 1 + 1 + 1, c7), (L + 1 + 1 + 1 + 1 + 1 + 1, c6), (L + 1 + 1 + 1 + 1 + 1, c5), (L + 1 + 1 + 1 + 1, cx), (L + 1 + 1 + 1, cM), (L + 1 + 1, cP), (L + 1, cD)]).map (·.1)) := fun y oy hy => far_ret NA O7 hy ([(mem, W.listOf mv.toArray nm), (D, W.listOf ys.toArray ys.length), (ord, W.listOf ov.toArray no), (dr, W.listOf dv.toArray dn), (L + 1 + 1 + 1 + 1 + 1 + 1 + 1, c7), (L + 1 + 1 + 1 + 1 + 1 + 1, c6), (L + 1 + 1 + 1 + 1 + 1, c5), (L + 1 + 1 + 1 + 1, cx), (L + 1 + 1 + 1, cM), (L + 1 + 1, cP), (L + 1, cD)]) (by (repeat (refine List.forall_mem_cons.mpr (And.intro (by k_mem) ?_))); exact fun _ h => nomatch h) hb85
                              have fL : ∀ p ∈ lexN w a 1 tl #[] nl 0 tp np, Far p.1 (([(mem, W.listOf mv.toArray nm), (D, W.listOf ys.toArray ys.length), (ord, W.listOf ov.toArray no), (dr, W.listOf dv.toArray dn), (L + 1 + 1 + 1 + 1 + 1 + 1 + 1, c7), (L + 1 + 1 + 1 + 1 + 1 + 1, c6), (L + 1 + 1 + 1 + 1 + 1, c5), (L + 1 + 1 + 1 + 1, cx), (L + 1 + 1 + 1, cM), (L + 1 + 1, cP), (L + 1, cD)]).map (·.1)) := fun p hp => fB p.1 p.2 (List.mem_append_left _ (List.mem_cons_of_mem _ hp))
                              simp only [List.map_cons, List.map_nil] at fL
                              simp only [lexN, List.forall_mem_cons] at fL
                              obtain ⟨g_pb, g_lx, g_dx, g_sx, g_sd, g_rd, g_cc, g_pl, g_c1, g_c2, _⟩ := fL
                              have g_tup : Far tup _ := fB tup _ (List.mem_append_left _ List.mem_cons_self)
                              simp only [List.map_cons, List.map_nil] at g_tup
                              have N8 := News.join (rest := [(mem, W.listOf mv.toArray nm), (D, W.listOf ys.toArray ys.length), (ord, W.listOf ov.toArray no), (dr, W.listOf dv.toArray dn), (L + 1 + 1 + 1 + 1 + 1 + 1 + 1, c7), (L + 1 + 1 + 1 + 1 + 1 + 1, c6), (L + 1 + 1 + 1 + 1 + 1, c5), (L + 1 + 1 + 1 + 1, cx), (L + 1 + 1 + 1, cM), (L + 1 + 1, cP), (L + 1, cD)]) NA G7 N7 (by (repeat (refine List.forall_mem_cons.mpr (And.intro (by k_mem) ?_))); exact fun _ h => nomatch h) hb85
                              have hoffB : ∀ x ∈ ([(mem, W.listOf mv.toArray nm), (D, W.listOf ys.toArray ys.length), (ord, W.listOf ov.toArray no), (dr, W.listOf dv.toArray dn), (L + 1 + 1 + 1 + 1 + 1 + 1 + 1, c7), (L + 1 + 1 + 1 + 1 + 1 + 1, c6), (L + 1 + 1 + 1 + 1 + 1, c5), (L + 1 + 1 + 1 + 1, cx), (L + 1 + 1 + 1, cM), (L + 1 + 1, cP), (L + 1, cD)]).map (·.1), offLex a x := fun x hx => off_of (w := w) (line := 1) (tl := tl) (items := #[]) (n := nl) (pos := 0) (tp := tp) (np := np) fun p hp => fB p.1 p.2 (List.mem_append_left _ (List.mem_cons_of_mem _ hp)) x hx
                              have off85 : offLex a 85 := offLex.below ho h85c
                              clear N7 G7 O7 NA hb85 fB
                              dsimp only [lexN, List.cons_append, List.nil_append] at N8
                              have N9 : News base L h7 ((tup, ({ cls := .type "tuple", data := .seq #[.ref a.lx, .ref a.pl] } : Obj)) :: (lexN w a 1 tl #[] nl 0 tp np ++ [(mem, W.listOf mv.toArray nm), (D, W.listOf ys.toArray ys.length), (ord, W.listOf ov.toArray no), (dr, W.listOf dv.toArray dn), (L + 1 + 1 + 1 + 1 + 1 + 1 + 1, c7), (L + 1 + 1 + 1 + 1 + 1 + 1, c6), (L + 1 + 1 + 1 + 1 + 1, c5), (L + 1 + 1 + 1 + 1, cx), (L + 1 + 1 + 1, cM), (L + 1 + 1, cP), (L + 1, cD), (85, tabObj tb)])) := News.subs N8 (by
                                dsimp only [lexN, List.cons_append, List.nil_append]
                                (repeat (refine List.forall_mem_cons.mpr (And.intro (by k_mem) ?_)))
                                exact fun _ h => nomatch h)
                              clear N8
                              dsimp only [lexN, List.cons_append, List.nil_append] at N9
                              k_steps
                              repeat (rename _ => z; revert z)
                              exact fun h => h.out
set_option maxRecDepth 100000 in
set_option maxHeartbeats 8000000 in
noncomputable def law_b : PSigma fun R : Prop => Cut R → law_a.1 := by
  apply PSigma.mk
  case snd =>
    intro hCut
    intro w
    k_fill
    intro s₀ s₁ mg mb fa o pm cd doc hg ns zz1 zz2 sc vs zz3 hLi hI hcond1 h₁ tk₁ c7 c6 c5 c4 c3 c2 c1 e7 d7 e6 d6 e5 d5 e4 d4 e3 d3 e2 d2
    intro e1 d1 u base X' T' K' lifted codeHd L l0 hvl _ dr ldr nsc dv de dn hde hd9 h7 tk7 _ tk cD _ _ _ _ _ _ _ g8 ys D hh tk fD _
    intro tk _ ps hp4 hps hp16 hys4 hlm cP _ ord os ov no hperm hov h7 tk7 fO _ tk _ _ tk cM mem lmem _ _ _ D7 x7 it oi h2 hi2 j oi cx cv
    intro mv ms nm h tk u2 hj hi3 dx hmv hok hml hmvl h4 l85m l85d hmlm _ _ _ _ _ _ g8 zs hzs D2 hh tk tJ kJ hjn hwok hwl htl hta _ tk tup a
    intro tl tp nl np tb ho htup hread h85c h7 tk7 g_pb g_lx g_dx g_sx g_sd g_rd g_cc g_pl g_c1 g_c2 _ g_tup hoffB off85 _ _ _ _ _ _ _ tk
    unfold Stop
    exact by
      (with_reducible rename News _ _ _ _ => NA)
      refine name_obj NA (x := L + 1 + 1 + 1 + 1 + 1 + 1) (by k_mem) ?_
      intro cX en
      subst en
      refine wpAny_mono (for_raw ?_) (fun _ _ z => z) (fun _ _ z => z.elim)
      k_steps
      (with_reducible rename News _ _ _ _ => NB)
      refine iter_list (by k_asm) NB (News.isList NB (by k_mem)) ?_
      intro it oi h2 hi2 F2 N2 l2 G2
      clear NB
      have dX : cX.data = .cell (some (.ref a.lx)) := by assumption
      have offIt : offLex a it := off_of (w := w) (line := 1) (tl := tl) (items := #[]) (n := nl) (pos := 0) (tp := tp) (np := np) fun p hp => Nat.ne_of_gt (l2 p (List.mem_cons_of_mem _ (List.mem_append_left [(mem, W.listOf mv.toArray nm), (D, W.listOf ys.toArray ys.length), (ord, W.listOf ov.toArray no), (dr, W.listOf dv.toArray dn), (L + 1 + 1 + 1 + 1 + 1 + 1 + 1, c7), (L + 1 + 1 + 1 + 1 + 1 + 1, cX), (L + 1 + 1 + 1 + 1 + 1, c5), (L + 1 + 1 + 1 + 1, cx), (L + 1 + 1 + 1, cM), (L + 1 + 1, cP), (L + 1, cD), (85, tabObj tb)] hp)))
      have offB : ∀ x ∈ [mem, D, ord, dr, L + 1 + 1 + 1 + 1 + 1 + 1 + 1, L + 1 + 1 + 1 + 1 + 1 + 1, L + 1 + 1 + 1 + 1 + 1, L + 1 + 1 + 1 + 1, L + 1 + 1 + 1, L + 1 + 1, L + 1], offLex a x := hoffB
      clear hoffB
      have offBk : ∀ p ∈ ((ord, W.listOf ov.toArray no) :: (dr, W.listOf dv.toArray dn) :: cellsL L c7 cX c5 cx cM cP cD tb), offLex a p.1 := by
        dsimp only [cellsL]
        (repeat (refine List.forall_mem_cons.mpr (And.intro (by first | exact off85 | exact offB _ (by simp)) ?_)))
        exact fun _ h => nomatch h
      have nit : ∀ x ∈ [mem, D, ord, dr, L + 1 + 1 + 1 + 1 + 1 + 1 + 1, L + 1 + 1 + 1 + 1 + 1 + 1, L + 1 + 1 + 1 + 1 + 1, L + 1 + 1 + 1 + 1, L + 1 + 1 + 1, L + 1 + 1, L + 1, 85], @LT.lt Nat _ x it := by
        (repeat (refine List.forall_mem_cons.mpr (And.intro (l2 (_, _) (by k_mem)) ?_))); exact fun _ h => nomatch h
      have N3 : News base L h2 ([(it, oi)] ++ (lexN w a 1 tl #[] nl 0 tp np ++ ([(mem, W.listOf mv.toArray nm), (D, W.listOf ys.toArray ys.length)] ++ ((ord, W.listOf ov.toArray no) :: (dr, W.listOf dv.toArray dn) :: cellsL L c7 cX c5 cx cM cP cD tb)))) := News.subs N2 (by
        dsimp only [lexN, cellsL, List.cons_append, List.nil_append]
        (repeat (refine List.forall_mem_cons.mpr (And.intro (by k_mem) ?_)))
        exact fun _ h => nomatch h)
      clear N2
      refine ⟨LawI base L s₁ w a ms os de tJ it mem ord D dr mv ov ys dv nm no dn c7 cX c5 cx cM cP cD tb, 4, ?_, ?_⟩
      · exact ⟨0, oi, ms, _, _, _, tl, nl, tp, np, h2, _, _, Nat.zero_le _, hi2, LawAt.start w a ho ms os de hok.small hread htl, fr_map3 F2 (Str.ofString "order") (Str.ofString "place") (Str.ofString "text") rfl rfl rfl, N3⟩
      clear N3 F2
      refine LawI.all ?_
      intro j oi nums line items pos tl n tp np h tk u hj hi3 hat F3 N3
      have hkp : Kept ps ms nums := hat.nums ▸ Kept.all (os.take j) ms (Kept.start hok.nodup)
      have hnb := hkp.bits hok.bits
      have hn16 := hkp.small hok.small
      have hnl : nums.length ≤ 7 := by rw [hkp.len]; exact hml
      have hnil : ((items nums.length) : Array Value) = #[] := hat.emp
      have NL := N3
      dsimp only [lexN, cellsL, List.cons_append, List.nil_append] at N3
      have hz400 : (strOf (textL (wsOf ms de))).length ≤ sizeLine := by rw [strOf_length, PySem.sizeLine_eq]; (first | k_extra "omegaL" | omega)
      refine next_list rfl hi3 F3 N3 (off_it (w := w) (line := line 0) (tl := tl) (items := items 0) (n := n) (pos := pos 0) (tp := tp) (np := np) (back := [(mem, W.listOf mv.toArray nm), (D, W.listOf ys.toArray ys.length), (ord, W.listOf ov.toArray no), (dr, W.listOf dv.toArray dn), (L + 1 + 1 + 1 + 1 + 1 + 1 + 1, c7), (L + 1 + 1 + 1 + 1 + 1 + 1, cX), (L + 1 + 1 + 1 + 1 + 1, c5), (L + 1 + 1 + 1 + 1, cx), (L + 1 + 1 + 1, cM), (L + 1 + 1, cP), (L + 1, cD), (85, tabObj tb)]) offIt nit) (News.isList N3 (by k_mem)) ?_ ?_
      · intro v oi' h4 hv4 hi4 F4 N4 G4
        obtain ⟨xv, tx, hxv, rfl⟩ := ints_at hov (by simpa using hv4)
        obtain ⟨pp, hpo, rfl⟩ : ∃ q : Nat, os[j]? = some q ∧ xv = (q : Int) := by
          rw [List.getElem?_map] at hxv
          cases hc : os[j]? with
          | none => rw [hc] at hxv; cases hxv
          | some M => rw [hc] at hxv; exact ⟨M, rfl, (Option.some.inj hxv).symm⟩
        have hpp := os_mem hperm hpo
        have hj4 : j < 4 := by
          have := (List.getElem?_eq_some_iff.mp hpo).1
          rw [hperm.length_eq, hp4] at this; exact this
        dsimp only [ForTurn]
        clear N3
        k_steps
        unfold Stop
        exact by
          (with_reducible rename News _ _ _ _ => NC)
          have hpush := fun p loose mean mg mb => pushed_spec w a ho p loose mean mg mb (nums.map apL) line items pos pp hat.serves tl n tp np mem D mv ms hmv nm ys ps hys4 ys.length tx hml hp4 hp16 hpp hps (by rw [List.length_map, hkp.len]) (by rw [List.length_map]; exact hat.emp) nums (shiftL pp nums) (shift_length pp nums) rfl hnb hn16 (down_eq pp nums) hkp.part (offB mem (by simp)) (offB D (by simp))
          dsimp only [lexN, List.cons_append, List.nil_append] at hpush
          k_call_by "mine" (hpush _ _ _ _ _)
          refine PushedRet.all ?_
          intro vs' tl' n' tp' np' hvs' h7 tk7 F7 N7 G7 O7
          have NF : News base L _ ([(it, oi')] ++ (lexN w a (line 0) tl (items 0) n (pos 0) tp np ++ ([(mem, W.listOf mv.toArray nm), (D, W.listOf ys.toArray ys.length)] ++ ((ord, W.listOf ov.toArray no) :: (dr, W.listOf dv.toArray dn) :: cellsL L c7 cX c5 cx cM cP cD tb)))) := News.subs NC (by
            dsimp only [lexN, cellsL, List.cons_append, List.nil_append]
            (repeat (refine List.forall_mem_cons.mpr (And.intro (by k_mem) ?_)))
            exact fun _ h => nomatch h)
          have N8 := lex_put2 NF G7 N7 (List.forall_mem_cons.mpr ⟨offIt, fun _ h => nomatch h⟩) offBk
          clear N7 G7 O7 NC NF hpush
          rw [List.length_map, hat.pos, hat.line] at N8
          dsimp only [lexN, cellsL, List.cons_append, List.nil_append] at N8
          have hzl : (strOf (textL (wsOf ms de))).length = (textL (wsOf ms de)).length := strOf_length _
          have hzc : ((textL (wsOf ms de)).length : Int) = ((strOf (textL (wsOf ms de))).length : Int) := by (first | k_extra "omegaL" | omega)
          k_steps
          · exfalso; (first | k_extra "omegaL" | omega)
          unfold Stop
          exact by
            refine KXw.count (count_nl _) ?_
            intro tc kc
            k_steps
            · exfalso; (first | k_extra "omegaL" | omega)
            (with_reducible rename Fr _ _ _ _ => F9)
            (with_reducible rename News _ _ _ _ => N9)
            exact ⟨4 - (j + 1), by (first | k_extra "omegaL" | omega), j + 1, oi', shiftL pp nums, _, _, _, tl', n', tp', np', h7, _, _, by (first | k_extra "omegaL" | omega), hi4, hat.next ho hpo hnl hvs', fr_map3 F9 (Str.ofString "order") (Str.ofString "place") (Str.ofString "text") rfl rfl rfl, N9⟩
      · intro h4 hv4 F4 N4 G4
        have hj4 : j = 4 := by
          rw [List.getElem?_toArray, List.getElem?_eq_none_iff, ints_len hov, List.length_map, hperm.length_eq, hp4] at hv4
          (first | k_extra "omegaL" | omega)
        subst hj4
        have hnums : nums = shiftAll os ms := by
          rw [hat.nums, List.take_of_length_le (by rw [hperm.length_eq, hp4]; exact Nat.le_refl _)]
        clear hv4 G4 N3 F3
        dsimp only [ForTurn]
        k_steps
        unfold Stop
        exact by
          repeat (rename _ => z; revert z)
          exact fun h => h.out
set_option maxRecDepth 100000 in
set_option maxHeartbeats 8000000 in
noncomputable def law_c : PSigma fun R : Prop => Cut R → law_b.1 := by
  apply PSigma.mk
  case snd =>
    intro hCut
    intro w
    k_fill
    intro s₀ s₁ mg mb fa o pm cd doc hg ns zz1 zz2 sc vs zz3 hLi hI hcond1 h₁ tk₁ c7 c6 c5 c4 c3 c2 c1 e7 d7 e6 d6 e5 d5 e4 d4 e3 d3 e2 d2
    intro e1 d1 u base X' T' K' lifted codeHd L l0 hvl _ dr ldr nsc dv de dn hde hd9 h7 tk7 _ tk cD _ _ _ _ _ _ _ g8 ys D hh tk fD _
    intro tk _ ps hp4 hps hp16 hys4 hlm cP _ ord os ov no hperm hov h7 tk7 fO _ tk _ _ tk cM mem lmem _ _ _ D7 x7 it oi h2 hi2 j oi cx cv
    intro mv ms nm h tk u2 hj hi3 dx hmv hok hml hmvl h4 l85m l85d hmlm _ _ _ _ _ _ g8 zs hzs D2 hh tk tJ kJ hjn hwok hwl htl hta _ tk tup a
    intro tl tp nl np tb ho htup hread h85c h7 tk7 g_pb g_lx g_dx g_sx g_sd g_rd g_cc g_pl g_c1 g_c2 _ g_tup off85 _ _ _ _ tk cX _ it oi h2 hi2 l2 G2 dX offIt offB
    intro offBk nit oi nums line items pos tl n tp np h tk u hkp hnb hn16 hnl hnil NL hz400 h4 F4 N4 hj hi3 hat hnums
    refine LCg.ListComp_U (F₀ := by k_asm) (by with_unfolding_all rfl) (by decide) (by rfl) (by decide) (by rfl) ?_
    k_steps
    unfold Stop
    exact by
      (with_reducible rename News _ _ _ _ => NB)
      refine LCg.CompSrc.ledger (by rfl) (by k_asm) NB (ax := mem) (its := mv.toArray) (k := nm) (by k_mem) (by rw [List.size_toArray, PySem.sizeLine_eq]; (first | k_extra "omegaL" | omega)) ?_
      intro g9
      have hmn : mv.toArray.size = nums.length := by rw [List.size_toArray, hmvl, hkp.len]
      refine comp_rest (LawJ L w a nums line items pos mem ord D dr mv ov ys dv nm no dn c7 cX c5 cx cM cP cD tb) ⟨tl, n, tp, np, .nil⟩ ?_ ?_
      · intro i v I oI C oC D2 m₂ hh tk E' hi
        intro ys2
        refine LawJ.all ?_
        rintro tl n tp np hy hv hoC hx F9 N9 off9 ne9
        have hnF : nums[i]? = some (nums[i]'(by rw [hmn] at hi; exact hi)) := List.getElem?_eq_getElem _
        generalize nums[i]'(by rw [hmn] at hi; exact hi) = FF at hnF
        have hw : (nums.map apL)[i]? = some (apL FF) := by rw [List.getElem?_map, hnF]; rfl
        have hF16 := hn16 FF (List.mem_of_getElem? hnF)
        have NL := N9
        dsimp only [lexN, cellsL, List.cons_append, List.nil_append] at N9
        obtain ⟨oI3, oC3, oD3⟩ := off3_lex (front := []) off9
        k_steps
        unfold Stop
        exact by
          have hcall := fun p loose mean mg mb => hat.serves i _ hw tl n tp np p loose mean mg mb
          dsimp only [lexN] at hcall
          k_call_by "mine" (hcall _ _ _ _ _)
          refine ServRet.all ?_
          intro tl' n' tp' np' t' h7 tk7 F7 N7 G7 O7
          have N8 := lex_put (front := [(I, oI), (C, oC), (D2, LCg.lst ys2)]) (back := [(mem, W.listOf mv.toArray nm), (D, W.listOf ys.toArray ys.length)] ++ ((ord, W.listOf ov.toArray no) :: (dr, W.listOf dv.toArray dn) :: cellsL L c7 cX c5 cx cM cP cD tb)) (w := w) (a := a) (line' := line (i + 1)) (items' := items (i + 1)) (pos' := pos (i + 1)) (tl' := tl') (tp' := tp') (n' := n') (np' := np') NL G7 N7
            (List.forall_mem_cons.mpr ⟨oI3, List.forall_mem_cons.mpr ⟨oC3, List.forall_mem_cons.mpr ⟨oD3, fun _ h => nomatch h⟩⟩⟩)
            (List.forall_mem_cons.mpr ⟨offB mem (by simp), List.forall_mem_cons.mpr ⟨offB D (by simp), offBk⟩⟩)
          clear N7 G7 O7 NL N9 hcall
          dsimp only [lexN, cellsL, List.cons_append, List.nil_append] at N8
          k_steps
          unfold Stop
          exact by
            (with_reducible rename News _ _ _ _ => NC)
            k_call_by "mine" (num_spec w _ _ _ _ _ (apL FF) _ (apL_ok FF hF16) (apL_len FF hF16))
            refine ValRet.all ?_
            intro t8 h8 tk8 F8 N7 G7 O7
            have N10 := News.keep0 NC G7
            have N11 : News base L h8 ([(I, oI), (C, oC), (D2, LCg.lst ys2)] ++ (lexN w a (line (i + 1)) tl' (items (i + 1)) n' (pos (i + 1)) tp' np' ++ ([(mem, W.listOf mv.toArray nm), (D, W.listOf ys.toArray ys.length)] ++ ((ord, W.listOf ov.toArray no) :: (dr, W.listOf dv.toArray dn) :: cellsL L c7 cX c5 cx cM cP cD tb)))) := News.subs N10 (by
              dsimp only [lexN, cellsL, List.cons_append, List.nil_append]
              (repeat (refine List.forall_mem_cons.mpr (And.intro (by k_mem) ?_)))
              exact fun _ h => nomatch h)
            refine comp_end F8 N11 off9 (.inr ⟨W.listOf mv.toArray nm, by simp, rfl, nm, rfl⟩) (.mk tl' n' tp' np' ?_)
            rw [List.take_add_one, hnF, Option.toList_some, List.map_append, numL_apL FF hF16]
            exact hy.append (.cons _ _ .nil)
      · intro ys2
        refine LawJ.all ?_
        intro tl n tp np hy
        rw [hmn, List.take_length] at hy
        intro D2 hh tk F9 N9 off9
        have oD2 := off1_lex (front := []) off9
        have fD2 := far_of off9
        simp only [lexN, cellsL, List.cons_append, List.nil_append, List.map_cons, List.map_nil] at fD2
        clear off9
        dsimp only [lexN, cellsL, List.cons_append, List.nil_append] at N9
        rw [hmn] at N9
        k_steps
        (with_reducible rename News _ _ _ _ => NA)
        refine name_obj NA (x := L + 1 + 1 + 1 + 1 + 1 + 1 + 1) (by k_mem) ?_
        intro cF en
        subst en
        have dF : cF.data = .cell (some (.ref D2)) := by assumption
        repeat (rename _ => z; revert z)
        exact fun h => h.out
set_option maxRecDepth 100000 in
set_option maxHeartbeats 8000000 in
noncomputable def law_d : PSigma fun R : Prop => PSigma fun R2 : Prop => Cut R → Cut R2 → law_c.1 := by
  apply PSigma.mk
  case snd =>
    apply PSigma.mk
    case snd =>
      intro hCut hCut2
      intro w
      k_fill
      intro s₀ s₁ mg mb fa o pm cd doc hg ns zz1 zz2 sc vs zz3 hLi hI hcond1 h₁ tk₁ c7 c6 c5 c4 c3 c2 c1 e7 d7 e6 d6 e5 d5 e4 d4 e3 d3 e2 d2
      intro e1 d1 u base X' T' K' lifted codeHd L l0 hvl _ dr ldr nsc dv de dn hde hd9 h7 tk7 _ tk cD _ _ _ _ _ _ _ g8 ys D hh tk fD _
      intro tk _ ps hp4 hps hp16 hys4 hlm cP _ ord os ov no hperm hov h7 tk7 fO _ tk _ _ tk cM mem lmem _ _ _ D7 x7 it oi h2 hi2 j oi cx cv
      intro mv ms nm h tk u2 hj hi3 dx hmv hok hml hmvl h4 l85m l85d hmlm _ _ _ _ _ _ g8 zs hzs D2 hh tk tJ kJ hjn hwok hwl htl hta _ tk tup a
      intro tl tp nl np tb ho htup hread h85c h7 tk7 g_pb g_lx g_dx g_sx g_sd g_rd g_cc g_pl g_c1 g_c2 _ g_tup off85 _ _ _ tk cX _ it oi h2 hi2 l2 G2 dX offIt offB offBk
      intro nit oi nums line items pos tl n tp np h tk u hkp hnb hn16 hnl hnil hz400 h4 hj hi3 hat hnums g9 hmn ys2 tl n tp np hy D2 hh tk oD2 fD2 _ _ cF
      intro NA _ dF
      (with_reducible rename News _ _ _ _ => NA)
      rw [hat.emp, hat.line, hat.pos] at NA
      refine wpAny_mono (for_raw ?_) (fun _ _ z => z) (fun _ _ z => z.elim)
      k_steps
      (with_reducible rename News _ _ _ _ => NB)
      (with_reducible rename IsRange _ _ _ _ _ _ _ _ => rg)
      refine iter_range (by k_asm) NB rg (rg_small0 _ hnl) (rg_size0 _ hnl) ?_
      intro it2 h3 F3 N3 l3 G3
      have fIt : Far it2 [D2, a.pb, a.lx, a.dx, a.sx, a.sd, a.rd, a.cc, a.pl, a.c1, a.c2, mem, D, ord, dr, L + 1 + 1 + 1 + 1 + 1 + 1 + 1, L + 1 + 1 + 1 + 1 + 1 + 1, L + 1 + 1 + 1 + 1 + 1, L + 1 + 1 + 1 + 1, L + 1 + 1 + 1, L + 1 + 1, L + 1, 85] := fun x hx => Nat.ne_of_lt ((show ∀ x ∈ [D2, a.pb, a.lx, a.dx, a.sx, a.sd, a.rd, a.cc, a.pl, a.c1, a.c2, mem, D, ord, dr, L + 1 + 1 + 1 + 1 + 1 + 1 + 1, L + 1 + 1 + 1 + 1 + 1 + 1, L + 1 + 1 + 1 + 1 + 1, L + 1 + 1 + 1 + 1, L + 1 + 1 + 1, L + 1 + 1, L + 1, 85], @LT.lt Nat _ x it2 from by
        (repeat (refine List.forall_mem_cons.mpr (And.intro (l3 (_, _) (by k_mem)) ?_))); exact fun _ h => nomatch h) x hx)
      have hyl : ys2.length = nums.length := by rw [ints_len hy, List.length_map]
      have hnm : (nums.map fun (x : Nat) => (x : Int)).length = nums.length := List.length_map _
      have hnlen : nums.length = ms.length := hkp.len
      clear NB rg G3
      refine ⟨LastI base L s₁ w a nums ms de it2 D2 mem ord D dr ys2 mv ov ys dv nm no dn cF cX cx cM cP cD tb tl n tp np, nums.length, ?_, ?_⟩
      · exact ⟨0, c5, e5, h3, _, _, Nat.zero_le _, d5, fr_map1 F3 (Str.ofString "order") rfl, N3⟩
      clear N3 F3
      refine LastI.all ?_
      intro j ck cv h tk u hj dk F4 N4
      refine next_range rfl F4 N4 (fun p hp => fIt p.1 (List.mem_map_of_mem (f := (·.1)) hp)) ?_ ?_
      · intro tr h5 tk5 hlt F5 N5 G5
        have hj7 : j < nums.length := by (first | k_extra "omegaL" | omega)
        have hj0 : (0 : Int) ≤ (j : Int) := Int.natCast_nonneg _
        have hj1 : (j : Int) < (nums.length : Int) := by (first | k_extra "omegaL" | omega)
        have hj2 : (j : Int) < (ms.length : Int) := by (first | k_extra "omegaL" | omega)
        clear G5 N4 F4
        dsimp only [lexN, cellsL, List.cons_append, List.nil_append] at N5
        dsimp only [ForTurn]
        obtain ⟨FF, hnF⟩ : ∃ F, nums[j]? = some F := ⟨_, List.getElem?_eq_getElem hj7⟩
        obtain ⟨MM, hmM⟩ : ∃ M, ms[j]? = some M := ⟨_, List.getElem?_eq_getElem (show j < ms.length by (first | k_extra "omegaL" | omega))⟩
        have hgF := getD_cast nums j FF hnF
        have hgM := getD_cast ms j MM hmM
        have hF16 := hn16 FF (List.mem_of_getElem? hnF)
        have hba : Builtin.bitAnd ((List.map (fun (x : Nat) => (x : Int)) nums).getD ((j : Nat) : Int).toNat 0) ((List.map (fun (x : Nat) => (x : Int)) ms).getD ((j : Nat) : Int).toNat 0) = (List.map (fun (x : Nat) => (x : Int)) nums).getD ((j : Nat) : Int).toNat 0 := by
          rw [hgF, hgM, bitAnd_nat, hkp.part j FF MM hnF hmM]
        k_steps
        · exact absurd hba (by assumption)
        unfold Stop
        exact by
          (with_reducible rename News _ _ _ _ => NA)
          refine name_obj NA (x := L + 1 + 1 + 1 + 1 + 1) (by k_mem) ?_
          intro cK en
          subst en
          have dK : cK.data = .cell (some (.int (j : Int) tr)) := by assumption
          repeat (rename _ => z; revert z)
          exact fun h _ => h.out
      · intro h5 hle F5 N5 G5
        clear G5 N4 F4
        dsimp only [lexN, cellsL, List.cons_append, List.nil_append] at N5
        dsimp only [ForTurn]
        k_steps
        unfold Stop
        exact by
          repeat (rename _ => z; revert z)
          exact fun _ h => h.out
set_option maxRecDepth 100000 in
set_option maxHeartbeats 8000000 in
theorem law_e : law_d.1 := by
  intro w
  k_fill
  intro s₀ s₁ mg mb fa o pm cd doc hg ns zz1 zz2 sc vs zz3 hLi hI hcond1 h₁ tk₁ c7 c6 c5 c4 c3 c2 c1 e7 d7 e6 d6 e5 d5 e4 d4 e3 d3 e2 d2
  intro e1 d1 u base X' T' K' lifted codeHd L l0 hvl _ dr ldr nsc dv de dn hde hd9 h7 tk7 _ tk cD _ _ _ _ _ _ _ g8 ys D hh tk fD _
  intro tk _ ps hp4 hps hp16 hys4 hlm cP _ ord os ov no hperm hov h7 tk7 fO _ tk _ _ tk cM mem lmem _ _ _ D7 x7 it oi h2 hi2 j oi cx cv
  intro mv ms nm h tk u2 hj hi3 dx hmv hok hml hmvl h4 l85m l85d hmlm _ _ _ _ _ _ g8 zs hzs D2 hh tk tJ kJ hjn hwok hwl htl hta _ tk tup a
  intro tl tp nl np tb ho htup hread h85c h7 tk7 g_pb g_lx g_dx g_sx g_sd g_rd g_cc g_pl g_c1 g_c2 _ g_tup off85 _ _ _ tk cX _ it oi h2 hi2 l2 G2 dX offIt offB offBk
  intro nit oi nums line items pos tl n tp np h tk u hkp hnb hn16 hnl hnil hz400 h4 hj hi3 hat hnums g9 hmn ys2 tl n tp np hy D2 hh tk oD2 fD2 _ cF _
  intro dF _ _ _ _ _ _ it2 h3 l3 fIt hyl hnm hnlen j ck cv h tk u hj dk tr h5 tk5 hlt hj7 hj0 hj1 hj2 FF hnF MM hmM hgF hgM hF16 hba _ _
  intro tk _ _ _ _ tk cK NA _ dK
  refine LCg.ListComp_U (F₀ := by k_asm) (by with_unfolding_all rfl) (by decide) (by rfl) (by decide) (by rfl) ?_
  k_steps
  unfold Stop
  exact by
    (with_reducible rename News _ _ _ _ => NB)
    refine LCg.CompSrc.ledger (by rfl) (by k_asm) NB (ax := mem) (its := mv.toArray) (k := nm) (by k_mem) (by rw [List.size_toArray, PySem.sizeLine_eq]; (first | k_extra "omegaL" | omega)) ?_
    intro g10
    refine comp_rest (SameI _ fun i => ((ms.take i).map fun (M : Nat) => ((M &&& FF : Nat) : Int))) (.mk .nil) ?_ ?_
    · intro i v I oI C oC D3 m₂ hh tk E' hi
      intro zs
      refine SameI.all ?_
      rintro hzs hv hoC hx F9 N9 off9 ne9
      obtain ⟨xv, tx, hxv, rfl⟩ := ints_at hmv (by simpa using hv)
      obtain ⟨M, hM, rfl⟩ : ∃ M : Nat, ms[i]? = some M ∧ xv = (M : Int) := by
        rw [List.getElem?_map] at hxv
        cases hc : ms[i]? with
        | none => rw [hc] at hxv; cases hxv
        | some M => rw [hc] at hxv; exact ⟨M, rfl, (Option.some.inj hxv).symm⟩
      k_steps
      refine comp_end (by assumption) (by assumption) off9 (.inr ⟨W.listOf mv.toArray nm, by simp, rfl, nm, rfl⟩) (.mk ?_)
      rw [List.take_add_one, hM, Option.toList_some, List.map_append]
      exact ints_snoc hzs (by rw [hgF, bitAnd_nat])
    · intro zs
      refine SameI.all ?_
      intro hzs
      have hmz : mv.toArray.size = ms.length := by rw [List.size_toArray, hmvl]
      rw [hmz, List.take_length] at hzs
      intro D3 hh tk F9 N9 off9
      have fD3 := far_of off9
      simp only [List.map_cons, List.map_nil] at fD3
      clear off9
      k_steps
      unfold Stop
      exact by
        (with_reducible rename News _ _ _ _ => NB2)
        refine set_of_list rfl (by k_asm) NB2 (News.isList NB2 (by k_mem)) hzs (by rw [List.length_map]; (first | k_extra "omegaL" | omega)) ?_
        intro DS oS hS tkS hSet FS NS lS
        clear NB2
        k_steps
        unfold Stop
        exact by
          (with_reducible rename News _ _ _ _ => NB2)
          refine sorted_set rfl (by k_asm) NB2 (o := oS) (by k_mem) hSet (by rw [List.length_map]; (first | k_extra "omegaL" | omega)) ?_
          intro DB vsB nsB cB hB tkB FB NB3 lB hIB hndB hmemB hsB hlB
          clear NB2
          have hsh := shown_is hps hperm hok hnums (List.mem_of_getElem? hnF) hsB hndB hmemB
          subst hsh
          k_steps
          unfold Stop
          exact by
            refine LCg.ListComp_U (F₀ := by k_asm) (by with_unfolding_all rfl) (by decide) (by rfl) (by decide) (by rfl) ?_
            k_steps
            unfold Stop
            exact by
              (with_reducible rename News _ _ _ _ => NB)
              have hSl : (subsL ps FF).length ≤ 16 := by
                have := subs_len (ps := ps) (X := FF) [0]
                rw [hp4, List.length_singleton] at this
                exact this
              have hvB : vsB.length = (subsL ps FF).length := by rw [ints_len hIB, List.length_map]
              have hvz : vsB.toArray.size = (subsL ps FF).length := by rw [List.size_toArray, hvB]
              refine LCg.CompSrc.ledger (by rfl) (by k_asm) NB (ax := DB) (its := vsB.toArray) (k := cB) (by k_mem) (by rw [List.size_toArray, PySem.sizeLine_eq]; (first | k_extra "omegaL" | omega)) ?_
              intro g11
              refine comp_rest (SameJ _ fun i => (((subsL ps FF).take i).map prettyS)) (.mk .nil) ?_ ?_
              · intro i v I oI C oC D4 m₂ hh tk E' hi
                intro zs2
                refine SameJ.all ?_
                rintro hzs2 hv hoC hx F9 N9 off9 ne9
                obtain ⟨xv, tx, hxv, rfl⟩ := ints_at hIB (by simpa using hv)
                obtain ⟨S, hS, rfl⟩ : ∃ S : Nat, (subsL ps FF)[i]? = some S ∧ xv = (S : Int) := by
                  rw [List.getElem?_map] at hxv
                  cases hc : (subsL ps FF)[i]? with
                  | none => rw [hc] at hxv; cases hxv
                  | some M => rw [hc] at hxv; exact ⟨M, rfl, (Option.some.inj hxv).symm⟩
                have hS16 := subs_small hps hF16 (List.mem_of_getElem? hS)
                k_steps
                unfold Stop
                exact by
                  (with_reducible rename News _ _ _ _ => NC)
                  k_call_by "mine" (pretty_spec w _ _ _ _ _ S _ hS16)
                  refine ValRet.all ?_
                  intro t7 h7 tk7 F7 N7 G7 O7
                  have N8 := News.keep0 NC G7
                  refine comp_end F7 N8 off9 (.inr ⟨W.listOf vsB.toArray cB, by simp, rfl, cB, rfl⟩) (.mk ?_)
                  rw [List.take_add_one, hS, Option.toList_some, List.map_append]
                  exact hzs2.append' (.cons _ _ .nil)
              · intro zs2
                refine SameJ.all ?_
                intro hzs2
                rw [hvz, List.take_length] at hzs2
                intro D4 hh tk F9 N9 off9
                have fD4 := far_of off9
                simp only [List.map_cons, List.map_nil] at fD4
                clear off9
                k_steps
                unfold Stop
                exact by
                  rw [hgF]
                  (with_reducible rename News _ _ _ _ => NC)
                  k_call_by "mine" (choices_spec w _ _ _ _ _ FF _ D ys ps ys.length hys4 hps hp4 hp16)
                  refine ChoicesRet.all ?_
                  intro D5 vs5 c5' hvs5 h7 tk7 F7 N7 G7 O7
                  have N8 := call_put NC G7 N7 (List.forall_mem_cons.mpr ⟨by k_mem, fun _ h => nomatch h⟩) (List.forall_mem_cons.mpr ⟨by k_mem, fun _ h => nomatch h⟩)
                  clear N7 G7 O7 NC
                  dsimp only [List.cons_append, List.nil_append] at N8
                  rw [← shown_choices ps hps hp16 FF] at hvs5
                  k_steps
                  unfold Stop
                  exact by
                    (with_reducible rename News _ _ _ _ => NB)
                    refine ne_strs (News.isList NB (by k_mem)) (News.isList NB (by k_mem)) hzs2 hvs5 (lay_pretties _ fun x hx => subs_small hps hF16 hx) (lay_pretties _ fun x hx => subs_small hps hF16 hx) (by ktr_units) ?_
                    simp only [decide_true, Bool.not_true]
                    k_steps
                    (with_reducible rename Fr _ _ _ _ => F10)
                    (with_reducible rename News _ _ _ _ => N10)
                    have N11 : News base L _ ((it2, rangeIt ((j + 1 : Nat) : Int) ((nums.length : Int) - ((j + 1 : Nat) : Int))) :: (D2, LCg.lst ys2) :: (lexN w a (1 + (((textL (wsOf ms de)).count 10 : Nat) : Int)) tl #[] n (((textL (wsOf ms de)).length : Nat) : Int) tp np ++ ([(mem, W.listOf mv.toArray nm), (D, W.listOf ys.toArray ys.length)] ++ ((ord, W.listOf ov.toArray no) :: (dr, W.listOf dv.toArray dn) :: cellsL L cF cX cK cx cM cP cD tb)))) := News.subs N10 (by
                      rw [← range_step]
                      dsimp only [lexN, cellsL, List.cons_append, List.nil_append]
                      (repeat (refine List.forall_mem_cons.mpr (And.intro (by k_mem) ?_)))
                      exact fun _ h => nomatch h)
                    exact ⟨nums.length - (j + 1), by (first | k_extra "omegaL" | omega), j + 1, cK, _, _, _, _, by (first | k_extra "omegaL" | omega), dK, fr_map1 F10 (Str.ofString "order") rfl, N11⟩
set_option maxRecDepth 100000 in
set_option maxHeartbeats 8000000 in
noncomputable def law_f : PSigma fun R : Prop => Cut R → law_d.2.1 := by
  apply PSigma.mk
  case snd =>
    intro hCut
    intro w
    k_fill
    intro s₀ s₁ mg mb fa o pm cd doc hg ns zz1 zz2 sc vs zz3 hLi hI hcond1 h₁ tk₁ c7 c6 c5 c4 c3 c2 c1 e7 d7 e6 d6 e5 d5 e4 d4 e3 d3 e2 d2
    intro e1 d1 u base X' T' K' lifted codeHd L l0 hvl _ dr ldr nsc dv de dn hde hd9 h7 tk7 _ tk cD _ _ _ _ _ _ _ g8 ys D hh tk fD _
    intro tk _ ps hp4 hps hp16 hys4 hlm cP _ ord os ov no hperm hov h7 tk7 fO _ tk _ _ tk cM mem lmem _ _ _ D7 x7 it oi h2 hi2 j oi cx cv
    intro mv ms nm h tk u2 hj hi3 dx hmv hok hml hmvl h4 l85m l85d hmlm _ _ _ _ _ _ g8 zs hzs D2 hh tk tJ kJ hjn hwok hwl htl hta _ tk tup a
    intro tl tp nl np tb ho htup hread h85c h7 tk7 g_pb g_lx g_dx g_sx g_sd g_rd g_cc g_pl g_c1 g_c2 _ g_tup off85 _ _ _ tk cX _ it oi h2 hi2 l2 G2 dX offIt offB offBk
    intro nit oi nums line items pos tl n tp np h tk u hkp hnb hn16 hnl hnil hz400 h4 hj hi3 hat hnums g9 hmn ys2 tl n tp np hy D2 hh tk oD2 fD2 _ _ cF
    intro _ _ dF _ _ _ _ _ _ _ it2 h3 l3 fIt hyl hnm hnlen j ck cv h tk u hj dk h5 hle F5 N5
    have hpos16 : ∀ q ∈ os.reverse, q < 16 := fun q hq => hp16 q (hperm.mem_iff.mp (List.mem_reverse.mp hq))
    have hol : os.reverse.length ≤ 4 := by rw [List.length_reverse, hperm.length_eq, hp4]; exact Nat.le_refl _
    have hovr : IntsAre ov (os.reverse.reverse.map fun (x : Nat) => (x : Int)) := by rw [List.reverse_reverse]; exact hov
    have hwonl : (wonR os.reverse ms).length ≤ 7 := Nat.le_trans (won_len os.reverse ms) hml
    (with_reducible rename News _ _ _ _ => NA)
    refine kso_sorted (by k_asm) NA (News.isList NA (by k_mem)) hy (by rw [List.length_map]; (first | k_extra "omegaL" | omega)) ?_
    intro DA vsA nsA cA hA FA NA2 lA hIA heA hpA hsA _
    clear NA
    k_steps
    unfold Stop
    exact by
      (with_reducible rename News _ _ _ _ => NC)
      k_call_by "mine" (won_spec w _ _ _ _ _ os.reverse mem ord mv ov ms nm no hmv hovr hml hol hpos16)
      refine WonRet.all ?_
      intro DW vsW cW hIW h7 tk7 F7 N7 G7 O7
      have N8 := call_put NC G7 N7 (List.forall_mem_cons.mpr ⟨by k_mem, List.forall_mem_cons.mpr ⟨by k_mem, fun _ h => nomatch h⟩⟩) (List.forall_mem_cons.mpr ⟨by k_mem, List.forall_mem_cons.mpr ⟨by k_mem, fun _ h => nomatch h⟩⟩)
      clear N7 G7 O7 NC
      dsimp only [List.cons_append, List.nil_append] at N8
      k_steps
      unfold Stop
      exact by
        (with_reducible rename News _ _ _ _ => NA)
        refine kso_sorted (by k_asm) NA (News.isList NA (by k_mem)) hIW (by rw [List.length_map]; (first | k_extra "omegaL" | omega)) ?_
        intro DE vsE nsE cE hE FE NE lE hIE heE hpE hsE _
        clear NA
        k_steps
        unfold Stop
        exact by
          (with_reducible rename News _ _ _ _ => NB)
          have hlw : nsA = nsE := sorted_same ((hnums ▸ left_won os ms (os_nodup hperm hps) hok.nodup : nums.Perm (wonR os.reverse ms)).map fun (x : Nat) => (x : Int)) hpA hpE hsA hsE
          refine ke_eq_ints (News.isList NB (by k_mem)) (News.isList NB (by k_mem)) hIA hIE (by ktr_units) ?_
          rw [decide_eq_true hlw]
          k_steps
          unfold Stop
          exact by
            (with_reducible rename News _ _ _ _ => NC)
            have hcall := fun p loose mean mg mb => token_end w (textL (wsOf ms de)) a ho hread p loose mean mg mb (1 + (((textL (wsOf ms de)).count 10 : Nat) : Int)) tl n (textL (wsOf ms de)).length tp np (Nat.le_refl _) htl (List.getElem?_eq_none (Nat.le_refl _))
            dsimp only [lexN] at hcall
            k_call_by "mine" (hcall _ _ _ _ _)
            refine TokRet.all ?_
            intro tl' tp' t' h8 tk8 F8 N7 G7 O7
            have NF : News base L _ ([] ++ (lexN w a (1 + (((textL (wsOf ms de)).count 10 : Nat) : Int)) tl #[] n (((textL (wsOf ms de)).length : Nat) : Int) tp np ++ [(L + 1 + 1 + 1 + 1 + 1 + 1, cX), (85, tabObj tb)])) := News.subs NC (by
              dsimp only [lexN, List.cons_append, List.nil_append]
              (repeat (refine List.forall_mem_cons.mpr (And.intro (by k_mem) ?_)))
              exact fun _ h => nomatch h)
            have N9 := lex_put NF G7 N7 (fun _ h => nomatch h) (List.forall_mem_cons.mpr ⟨offB _ (by simp), List.forall_mem_cons.mpr ⟨off85, fun _ h => nomatch h⟩⟩)
            clear N7 G7 O7 NC NF hcall
            dsimp only [lexN, List.cons_append, List.nil_append] at N9
            rw [← lit_empty]
            k_steps
            unfold Stop
            exact by
              (with_reducible rename News _ _ _ _ => NB)
              refine ke_eq_ints (xs := []) (ys := []) (News.isList NB (by k_mem)) (News.isList NB (by k_mem)) .nil .nil (by ktr_units) ?_
              rw [decide_eq_true rfl]
              repeat (rename _ => z; revert z)
              exact fun h => h.out
set_option maxRecDepth 100000 in
set_option maxHeartbeats 8000000 in
theorem law_g : law_f.1 := by
  intro w
  k_fill
  intro s₀ s₁ mg mb fa o pm cd doc hg ns zz1 zz2 sc vs zz3 hLi hI hcond1 h₁ tk₁ c7 c6 c5 c4 c3 c2 c1 e7 d7 e6 d6 e5 d5 e4 d4 e3 d3 e2 d2
  intro e1 d1 u base X' T' K' lifted codeHd L l0 hvl _ dr ldr nsc dv de dn hde hd9 h7 tk7 _ tk cD _ _ _ _ _ _ _ g8 ys D hh tk fD _
  intro tk _ ps hp4 hps hp16 hys4 hlm cP _ ord os ov no hperm hov h7 tk7 fO _ tk _ _ tk cM mem lmem _ _ _ D7 x7 it oi h2 hi2 j oi cx cv
  intro mv ms nm h tk u2 hj hi3 dx hmv hok hml hmvl h4 l85m l85d hmlm _ _ _ _ _ _ g8 zs hzs D2 hh tk tJ kJ hjn hwok hwl htl hta _ tk tup a
  intro tl tp nl np tb ho htup hread h85c h7 tk7 g_pb g_lx g_dx g_sx g_sd g_rd g_cc g_pl g_c1 g_c2 _ g_tup off85 _ _ _ tk cX _ it oi h2 hi2 l2 G2 dX offIt offB offBk
  intro nit oi nums line items pos tl n tp np h tk u hkp hnb hn16 hnl hnil hz400 h4 hj hi3 hat hnums g9 hmn ys2 tl n tp np hy D2 hh tk oD2 fD2 _ cF _
  intro dF _ _ _ _ _ _ it2 h3 l3 fIt hyl hnm hnlen j ck cv h tk u hj dk h5 hle hpos16 hol hovr hwonl DA vsA nsA cA hA lA hIA heA hpA hsA _ DW
  intro vsW cW hIW h7 tk7 DE vsE nsE cE hE lE hIE heE hpE hsE _ hlw tl' tp' t' h8 tk8 _ _ _ NB _
  (with_reducible rename Fr _ _ _ _ => FQ)
  (with_reducible rename News _ _ _ _ => NQ)
  refine ⟨?_, ?_⟩
  · refine goodW_bool (b := true) FQ hg (raisesW_false ?_) ?_
    · wrow_none_raised
    · exact law_post ns
  · exact ⟨GrownAt.of NQ (by k_mem), trivial⟩
theorem law_holds : Challenge.rw_ty0007_01.Holds := law_a.2 ⟨law_b.2 ⟨law_c.2 ⟨law_d.2.2 ⟨law_e⟩ ⟨law_f.2 ⟨law_g⟩⟩⟩⟩⟩
end
end
end Mine
set_option maxRecDepth 100000 in
set_option maxHeartbeats 8000000 in
theorem PySem.Challenge.cw_ty0007_01_holds : PySem.Challenge.rw_ty0007_01.Holds := by
  exact Mine.law_holds
