import PyProof.Rows.All
import Wide.All
import OpenK.AllK
import Wide.FinOn
import Lean
import PySem.Challenge.RW_qw0003_01
set_option Elab.async false
set_option compiler.extract_closed false
set_option maxRecDepth 100000
set_option linter.all false
namespace Mine
section
open PySem PySem.W PyProof.Rows PySem.Calls
set_option hygiene false in
local macro_rules | `(tactic| walk_at "memA") => `(tactic| (repeat (first | exact List.mem_cons_self | refine List.mem_cons_of_mem _ ?_)))
local macro_rules | `(tactic| walk_at "mem") => `(tactic| with_reducible walk_at "memA")
set_option hygiene false in
local macro_rules | `(tactic| walk_at "dr") => `(tactic| (repeat' (first | exact Dr.nil | with_reducible (first | refine' Dr.hit ?_ | refine' Dr.miss (by decide) ?_))))
set_option hygiene false in
local macro_rules | `(tactic| walk_at "e") => `(tactic| with_reducible (first
  | refine e_var ?_ | refine e_glob ?_ | refine e_bltn ?_
  | ((first | refine hw_int ?_ | refine hw_str ?_ | refine hw_band ?_ | refine hw_bor ?_ | refine hw_ibor ?_ | refine e_mod ?_ | refine e_div ?_ | refine hw_add ?_ | refine hw_sub ?_); intro _)
  | refine hw_cons ?_ | refine hw_nil ?_ | refine hw_If ?_ | refine hw_Return ?_ | refine hw_BinOp ?_ | refine hw_isTrue_Compare ?_ | refine hw_isTrue_chain ?_ | refine hw_Compare ?_ | refine hw_or ?_ | refine hw_and ?_ | refine hw_or_nil ?_ | refine hw_and_nil ?_ | refine hw_isTrue_not ?_ | refine hw_AugAssign ?_ | refine hw_Call ?_ | refine hw_List ?_ | refine hw_Subscript ?_ | refine hw_spl_nil ?_ | refine e_isT ?_ | refine e_isF ?_ | refine e_isntF ?_ | refine hw_Try ?_ | refine hw_bool ?_ | refine hw_none ?_ | refine hw_Slice ?_ | refine hw_part_none ?_ | refine hw_part ?_ | refine e_callWith ?_ | refine e_kB ?_ | refine e_kT ?_ | refine e_spl ?_ | refine e_load ?_ | refine hw_truthy_int ?_ | refine hw_truthy_none ?_ | refine hw_tt ?_ | refine hw_ff ?_ | refine hw_lt ?_ | refine hw_le ?_ | refine hw_gt ?_ | refine hw_ge ?_ | refine hw_eq ?_ | refine hw_ne ?_ | refine hw_truthy_bool ?_ | refine hw_IfExp ?_ | refine e_Assign ?_
  | (refine e_put ?_; intro _ _ _)))
set_option hygiene false in
local macro_rules | `(tactic| walk_at "subA") => `(tactic| (repeat' (first | exact sb_nil | refine' sb_cons (by walk_at "memA") ?_)))
local macro_rules | `(tactic| walk_at "sub") => `(tactic| with_reducible walk_at "subA")
set_option hygiene false in
local macro_rules | `(tactic| walk_at "cl") => `(tactic| (repeat' (first | exact cl_nil | refine' cl_cons (by exact rfl) ?_)))
set_option hygiene false in
local macro_rules | `(tactic| walk_at "lc") => `(tactic| (repeat' (first | exact lc_nil | with_reducible refine' lc_cons (by walk_at "memA") (by with_unfolding_all rfl) ?_)))
set_option hygiene false in
local macro_rules | `(tactic| walk_at "rm") => `(tactic| with_reducible (repeat (first | exact Rm.hit _ | apply Rm.miss)))
set_option hygiene false in
local macro_rules | `(tactic| walk_at "memb") => `(tactic| first | assumption | with_reducible (repeat (first | assumption | exact List.mem_cons_self | refine List.mem_cons_of_mem _ ?_)))
set_option hygiene false in
local macro_rules | `(tactic| walk_at "ck2") => `(tactic| first
  | with_reducible (first | refine nd_at ?_ | refine wpAny_standAt ?_ | refine Looks.at (by assumption) ?_ | refine z_load ?_ | (refine z_alloc ?_; intro _ _ _) | refine z_nsGet ?_ | (refine z_nsDel ?_; intro _ _ _ _) | (refine z_nsSet ?_; intro _ _ _ _) | (refine z_update ?_; intro _ _) | refine nd_pure ?_ | refine nd_rule ?_ | refine nd_point ?_ | refine nd_ask ?_ | refine nd_fresh ?_ | refine wpAny_bind ?_)
  | refine nd_pure ?_
  | lk
  | with_reducible (first | refine c_negB (by kernel_rfl!) ?_ | refine c_posB (by kernel_rfl!) ?_ | refine c_neg (by decide +kernel) ?_ | refine c_pos (by decide +kernel) ?_))
set_option hygiene false in
local macro_rules | `(tactic| walk_at "ck") => `(tactic| ((fail_if_success (walk_at "stop")); walk_at "ck2"))
set_option hygiene false in
local macro_rules | `(tactic| walk_at "cka") => `(tactic| ((fail_if_success (walk_at "stopA")); walk_at "ck2"))
set_option hygiene false in
local macro_rules | `(tactic| x_close) => `(tactic| ((repeat lk); intro G; first | exact hx | exact hx _ _ _ (Led.memG hD (by assumption) G)))
set_option hygiene false in
local macro_rules | `(tactic| walk_at "stopA") => `(tactic| with_reducible (first | refine st_call ?_ | refine st_getAttrO ?_ | refine st_getAttr ?_ | refine st_classCode ?_ | refine st_run ?_ | refine st_storeName ?_ | refine st_nsGet ?_ | refine st_nsSet ?_ | refine st_nsDel ?_ | refine st_enterFrame ?_ | refine st_evalArgs ?_ | refine st_buildClass ?_ | refine st_makeFunction ?_ | refine st_builtinsFor ?_ | refine st_closureFor ?_))
set_option hygiene false in
local macro_rules | `(tactic| walk_at "stop") => `(tactic| with_reducible (first | refine st_call ?_ | refine st_getAttrO ?_ | refine st_getAttr ?_ | refine st_slotsRead ?_ | refine st_slotsInstall ?_ | refine st_collect ?_))

-- B0
section
open PySem PySem.W PyProof.Rows

/-! ## Heaps: what stands -/
structure KX (W : List Addr) (h h' : Heap) : Prop where
  sz : h.objs.size ≤ h'.objs.size
  keep : ∀ b o, b ∉ W → h.get? b = some o → h'.get? b = some o
theorem KX.refl (W : List Addr) (h : Heap) : KX W h h := ⟨Nat.le_refl _, fun _ _ _ e => e⟩
theorem KX.trans {W : List Addr} {h₁ h₂ h₃ : Heap} (x : KX W h₁ h₂) (y : KX W h₂ h₃) : KX W h₁ h₃ :=
  ⟨Nat.le_trans x.sz y.sz, fun b o hb e => y.keep b o hb (x.keep b o hb e)⟩
theorem KX.mono {W W' : List Addr} {h h' : Heap} (x : KX W h h') (hs : ∀ a ∈ W, a ∈ W') : KX W' h h' :=
  ⟨x.sz, fun b o hb e => x.keep b o (fun hm => hb (hs b hm)) e⟩
theorem KX.any {W : List Addr} {h h' : Heap} (x : KX [] h h') : KX W h h' := x.mono fun _ hm => nomatch hm
theorem KX.all {h h' : Heap} (x : KX [] h h') (b : Addr) (o : Obj) (e : h.get? b = some o) : h'.get? b = some o := x.keep b o (fun hm => nomatch hm) e
theorem KX.push (W : List Addr) (h : Heap) (o : Obj) : KX W h (h.push o) := ⟨by rw [Heap.size_push]; lia, fun _ _ _ e => Heap.get?_push_of_some o e⟩
theorem KX.same {W : List Addr} {a : Addr} {h h' : Heap} (x : Heap.SameBut a h h') (ha : a ∈ W) : KX W h h' :=
  ⟨Nat.le_of_eq x.1.symm, fun b _ hb e => (x.2 b (fun q => hb (q ▸ ha))).trans e⟩
theorem KX.of_all {h h' : Heap} (hs : h.objs.size ≤ h'.objs.size) (k : ∀ b o, h.get? b = some o → h'.get? b = some o) : KX [] h h' := ⟨hs, fun b o _ e => k b o e⟩
/-- what W's members leave of a base that lies below them -/
theorem KX.below {W : List Addr} {B h h' : Heap} (x : KX [] B h) (y : KX W h h') (hW : ∀ a ∈ W, B.objs.size ≤ a) : KX [] B h' :=
  ⟨Nat.le_trans x.sz y.sz, fun b o _ e => y.keep b o (fun hm => Nat.lt_irrefl _ (Nat.lt_of_lt_of_le (Heap.lt_size e) (hW b hm))) (x.all b o e)⟩

/-! ## The logic over heaps alone: nothing raises -/
noncomputable def Sm (s s' : Shared) : Prop := s'.gens = s.gens ∧ s'.drawn = s.drawn ∧ s'.os = s.os
theorem Sm.refl (s : Shared) : Sm s s := ⟨rfl, rfl, rfl⟩
theorem Sm.trans {a b c : Shared} (x : Sm a b) (y : Sm b c) : Sm a c := ⟨y.1.trans x.1, y.2.1.trans x.2.1, y.2.2.trans x.2.2⟩

noncomputable def hw {α : Type} (M : Model) (A : Around) (t : Sem α) (Q : α → Heap → Prop) (h : Heap) : Prop :=
  ∀ s : Shared, s.heap = h → wpAny M A t (fun a s' => Sm s s' ∧ Q a s'.heap) (fun _ _ => False) s
noncomputable def hc (M : Model) (A : Around) (c : Code) (R : Flow → Heap → Prop) (h : Heap) : Prop :=
  ∀ s : Shared, s.heap = h → codeAny M A c (fun r s' => match r with | .ok f => Sm s s' ∧ R f s'.heap | .error _ => False) s

/-! ## What is left to do, under names: no binder, so a term is shared at every depth -/
section
variable {α β : Type}
noncomputable abbrev rqThen (M : Model) (A : Around) (f : α → Sem β) (Q : β → Heap → Prop) : α → Heap → Prop := fun a h => hw M A (f a) Q h
noncomputable abbrev rqNext (Q : Flow → Heap → Prop) : α → Heap → Prop := fun _ => Q .next
noncomputable abbrev rqRet (Q : Flow → Heap → Prop) : Value → Heap → Prop := fun v => Q (.ret v)
noncomputable abbrev rqSeq (M : Model) (A : Around) (env : Env) (rest : List Stmt) (Q : Flow → Heap → Prop) : Flow → Heap → Prop := fun f h' => match f with | .next => hw M A (execs rest env) Q h' | f => Q f h'
noncomputable abbrev rqBin (M : Model) (A : Around) (env : Env) (r : Expr) (op : Operator) (Q : Value → Heap → Prop) : Value → Heap → Prop := fun a h₁ => hw M A (eval r env) (rqThen M A (binaryOp op a) Q) h₁
noncomputable abbrev rqCmp (M : Model) (A : Around) (env : Env) (r : Expr) (op : CmpOp) (Q : Value → Heap → Prop) : Value → Heap → Prop := fun a h₁ => hw M A (eval r env) (rqThen M A (compareOp op a) Q) h₁
noncomputable abbrev rqIf (M : Model) (A : Around) (env : Env) (body orelse : List Stmt) (Q : Flow → Heap → Prop) : Bool → Heap → Prop := fun b h₂ => if b then hw M A (execs body env) Q h₂ else hw M A (execs orelse env) Q h₂
noncomputable abbrev rqIfE (M : Model) (A : Around) (env : Env) (body orelse : Expr) (Q : Value → Heap → Prop) : Bool → Heap → Prop := fun b h₂ => if b then hw M A (eval body env) Q h₂ else hw M A (eval orelse env) Q h₂
noncomputable abbrev rqNot (Q : Bool → Heap → Prop) : Bool → Heap → Prop := fun c h' => Q (!c) h'
noncomputable abbrev rqAnd (M : Model) (A : Around) (env : Env) (rest : List Expr) (p : Pos) (whole : Sem Value) (Q : Bool → Heap → Prop) : Bool → Heap → Prop := fun c h' => if c then hw M A (isTrue (.BoolOp .And rest p) env whole) Q h' else Q false h'
noncomputable abbrev rqOr (M : Model) (A : Around) (env : Env) (rest : List Expr) (p : Pos) (whole : Sem Value) (Q : Bool → Heap → Prop) : Bool → Heap → Prop := fun c h' => if c then Q true h' else hw M A (isTrue (.BoolOp .Or rest p) env whole) Q h'
noncomputable abbrev rqCh3 (M : Model) (A : Around) (env : Env) (r : Expr) (o₂ : CmpOp) (b : Value) (Q : Bool → Heap → Prop) : Bool → Heap → Prop := fun t h₄ => if t then hw M A (eval r env) (rqThen M A (compareOp o₂ b) (rqThen M A truthy Q)) h₄ else Q false h₄
noncomputable abbrev rqCh2 (M : Model) (A : Around) (env : Env) (r : Expr) (o₁ o₂ : CmpOp) (a : Value) (Q : Bool → Heap → Prop) : Value → Heap → Prop := fun b h₂ => hw M A (compareOp o₁ a b) (rqThen M A truthy (rqCh3 M A env r o₂ b Q)) h₂
noncomputable abbrev rqCh1 (M : Model) (A : Around) (env : Env) (m r : Expr) (o₁ o₂ : CmpOp) (Q : Bool → Heap → Prop) : Value → Heap → Prop := fun a h₁ => hw M A (eval m env) (rqCh2 M A env r o₁ o₂ a Q) h₁
noncomputable abbrev rqFn (Q : Value → Heap → Prop) : Flow → Heap → Prop := fun fl h' => Q (match fl with | .ret v => v | _ => .none) h'
noncomputable abbrev rqLoop (Q : Flow → Heap → Prop) (I : Nat → Heap → Prop) (n : Nat) : Flow → Heap → Prop := fun f h₃ => match f with
  | .next | .cont => ∃ m, m < n ∧ I m h₃
  | .brk => Q .next h₃
  | .ret v => Q (.ret v) h₃
noncomputable abbrev rqWhile (M : Model) (A : Around) (env : Env) (body orelse : List Stmt) (Q : Flow → Heap → Prop) (I : Nat → Heap → Prop) (n : Nat) : Bool → Heap → Prop := fun b h₂ => if b then hw M A (execs body env) (rqLoop Q I n) h₂ else hw M A (execs orelse env) Q h₂
noncomputable abbrev rqForL (Q : Flow → Heap → Prop) (J P : Nat → Heap → Prop) (i : Nat) : Flow → Heap → Prop := fun f h₂ => match f with
  | .next | .cont => J (i + 1) h₂ ∧ P (i + 1) h₂
  | .brk => Q .next h₂
  | .ret v => Q (.ret v) h₂
noncomputable abbrev rqForS (M : Model) (A : Around) (env : Env) (body : List Stmt) (Q : Flow → Heap → Prop) (J P : Nat → Heap → Prop) (i : Nat) : Unit → Heap → Prop := fun _ h₁ => hw M A (execs body env) (rqForL Q J P i) h₁
noncomputable abbrev rqForC (M : Model) (A : Around) (env : Env) (target : Expr) (body orelse : List Stmt) (Q : Flow → Heap → Prop) : Value → Heap → Prop := fun it h₂ => hc M A (.forLoop target it body orelse env) Q h₂
noncomputable abbrev rqForI (M : Model) (A : Around) (env : Env) (target : Expr) (body orelse : List Stmt) (Q : Flow → Heap → Prop) : Value → Heap → Prop := fun x h₁ => hw M A (pyIter x) (rqForC M A env target body orelse Q) h₁
noncomputable abbrev rqConsV (v : Value) (Q : List Value → Heap → Prop) : List Value → Heap → Prop := fun vs h₂ => Q (v :: vs) h₂
noncomputable abbrev rqSpl (M : Model) (A : Around) (env : Env) (pos : Pos) (rest : List Expr) (Q : List Value → Heap → Prop) : Value → Heap → Prop := fun v h₁ => hw M A (spliced (backTo pos (starEach rest env))) (rqConsV v Q) h₁
noncomputable abbrev rqEv (M : Model) (A : Around) (rest : List (Sem Value)) (Q : List Value → Heap → Prop) : Value → Heap → Prop := fun v h₁ => hw M A (evalAll rest) (rqConsV v Q) h₁
noncomputable abbrev rqCall (M : Model) (A : Around) (env : Env) (pos : Pos) (args : List Expr) (Q : Value → Heap → Prop) : Value → Heap → Prop := fun f h₁ => hw M A (callWith pos f [] (backTo pos (starEach args env)) []) Q h₁
noncomputable abbrev rqCallK (M : Model) (A : Around) (env : Env) (pos : Pos) (args : List Expr) (kws : List Keyword) (Q : Value → Heap → Prop) : Value → Heap → Prop := fun f h₁ => hw M A (callWith pos f [] (backTo pos (starEach args env)) (backToKw pos (keywordEach kws env))) Q h₁
noncomputable abbrev rqSub (M : Model) (A : Around) (env : Env) (value slice : Expr) (Q : Value → Heap → Prop) : Value → Heap → Prop := fun o h₁ => hw M A (eval slice env) (rqThen M A (subscriptTail value slice o) Q) h₁
noncomputable abbrev rqSl3 (l u : Value) (Q : Value → Heap → Prop) : Value → Heap → Prop := fun st h₃ => ∀ a h', KX [] h₃ h' → h₃.objs.size ≤ a → a < h'.objs.size → h'.IsSliceOf a l u st → Q (.ref a) h'
noncomputable abbrev rqSl2 (M : Model) (A : Around) (env : Env) (step : Option Expr) (l : Value) (Q : Value → Heap → Prop) : Value → Heap → Prop := fun u h₂ => hw M A (evalPart step env) (rqSl3 l u Q) h₂
noncomputable abbrev rqSl1 (M : Model) (A : Around) (env : Env) (upper step : Option Expr) (Q : Value → Heap → Prop) : Value → Heap → Prop := fun l h₁ => hw M A (evalPart upper env) (rqSl2 M A env step l Q) h₁
noncomputable abbrev rqAug (M : Model) (A : Around) (env : Env) (x : Str) (value : Expr) (op : Operator) (Q : Flow → Heap → Prop) : Value → Heap → Prop := fun old h₁ => hw M A (eval value env) (rqThen M A (inplaceOp op old) (rqThen M A (storeName env x) (rqNext Q))) h₁
end

section
variable {α β : Type} {M : Model} {A : Around} {h : Heap}
theorem hw_pure {a : α} {Q : α → Heap → Prop} (q : Q a h) : hw M A (pure a) Q h := fun s e => wpAny_pure ⟨Sm.refl s, e ▸ q⟩
theorem hw_mono {t : Sem α} {Q Q' : α → Heap → Prop} (x : hw M A t Q h) (q : ∀ a h', Q a h' → Q' a h') : hw M A t Q' h :=
  fun s e => wpAny_mono (x s e) (fun a s' y => ⟨y.1, q a _ y.2⟩) fun _ _ f => f
theorem hw_bind {m : Sem α} {f : α → Sem β} {Q : β → Heap → Prop} (x : hw M A m (fun a h' => hw M A (f a) Q h') h) : hw M A (m >>= f) Q h :=
  fun s e => wpAny_bind (wpAny_mono (x s e) (fun a s' y => wpAny_mono (y.2 s' rfl) (fun b s'' z => ⟨y.1.trans z.1, z.2⟩) fun _ _ f => f) fun _ _ f => f)
theorem hw_holding {vs : List Value} {m : Sem α} {Q : α → Heap → Prop} (x : hw M A m Q h) : hw M A (holding vs m) Q h := fun s e => wpAny_holding (x s e)
theorem hw_standAt {p : Pos} {Q : Unit → Heap → Prop} (q : Q () h) : hw M A (standAt p) Q h := fun s e => wpAny_standAt ⟨Sm.refl s, e ▸ q⟩
theorem hw_point {Q : Unit → Heap → Prop} (q : Q () h) : hw M A point Q h := fun s e => wpAny_point ⟨Sm.refl s, e ▸ q⟩
theorem hw_rule {t : String} {Q : Unit → Heap → Prop} (q : Q () h) : hw M A (rule t) Q h := fun s e => wpAny_rule ⟨Sm.refl s, e ▸ q⟩
/-- out of a rule of the library that leaves the heap -/
theorem hw_of {t : Sem α} {Q : α → Heap → Prop} (x : ∀ s : Shared, s.heap = h → ∀ (Q' : α → Shared → Prop) (E : Value → Shared → Prop), (∀ a s', Sm s s' → Q a s'.heap → Q' a s') → wpAny M A t Q' E s) : hw M A t Q h :=
  fun s e => x s e _ _ fun _ _ y q => ⟨y, q⟩
theorem hw_run {c : Code} {Q : Flow → Heap → Prop} (x : hc M A c Q h) : hw M A (run c none) Q h :=
  fun s e => wpAny_run (codeAny_mono (A := A.mark none) (by exact x s e) fun r s' y => by
    cases r with
    | ok f => exact y
    | error e => exact y.elim)
theorem hw_call {f : Value} {pos : List Value} {kw : List (Str × Value)} {Q : Value → Heap → Prop} (x : hc M A (.call f ⟨pos, kw⟩) (fun fl h' => match fl with | .ret v => Q v h' | _ => False) h) : hw M A (call f pos kw) Q h :=
  fun s e => wpAny_call (codeAny_mono (x s e) fun r s' y => by
    cases r with
    | ok f => cases f with
      | ret v => exact y
      | _ => exact y.2
    | error e => exact y)
theorem hc_mono {c : Code} {R R' : Flow → Heap → Prop} (x : hc M A c R h) (q : ∀ f h', R f h' → R' f h') : hc M A c R' h :=
  fun s e => codeAny_mono (x s e) fun r s' y => by
    cases r with
    | ok f => exact ⟨y.1, q _ _ y.2⟩
    | error e => exact y
theorem hw_ite_true {c : Prop} [Decidable c] {a b : Sem α} {Q : α → Heap → Prop} (hc : c) (x : hw M A a Q h) : hw M A (if c then a else b) Q h := by rw [if_pos hc]; exact x
theorem hw_ite_false {c : Prop} [Decidable c] {a b : Sem α} {Q : α → Heap → Prop} (hc : ¬ c) (x : hw M A b Q h) : hw M A (if c then a else b) Q h := by rw [if_neg hc]; exact x
end

/-! ## Statements and expressions -/
section
variable {M : Model} {A : Around} {h : Heap} {env : Env}
theorem hw_nil {Q : Flow → Heap → Prop} (q : Q .next h) : hw M A (execs [] env) Q h := hw_pure q
theorem hw_cons {st : Stmt} {rest : List Stmt} {Q : Flow → Heap → Prop}
    (x : hw M A (exec st env) (rqSeq M A env rest Q) h) : hw M A (execs (st :: rest) env) Q h := by
  rw [execs_cons]
  refine hw_bind (hw_mono x fun f h' y => ?_)
  cases f <;> first | exact y | exact hw_pure y
theorem hw_int {i : Int} {k : Nat} {p : Pos} {Q : Value → Heap → Prop} (q : ∀ t, Q (.int i t) h) : hw M A (eval (.Constant (.int i) k p) env) Q h :=
  fun s e => wpAny_Constant_int ⟨Sm.refl s, e ▸ q _⟩
theorem hw_str {x : Str} {k : Nat} {p : Pos} {Q : Value → Heap → Prop} (q : ∀ t, Q (.str x t) h) : hw M A (eval (.Constant (.str x) k p) env) Q h :=
  fun s e => Calls.Constant_str ⟨Sm.refl s, e ▸ q _⟩
theorem hw_bool {b : Bool} {k : Nat} {p : Pos} {Q : Value → Heap → Prop} (q : Q (.bool b) h) : hw M A (eval (.Constant (.bool b) k p) env) Q h := hw_pure q
theorem hw_none {k : Nat} {p : Pos} {Q : Value → Heap → Prop} (q : Q .none h) : hw M A (eval (.Constant .none k p) env) Q h := hw_pure q
theorem hw_BinOp {l r : Expr} {op : Operator} {p : Pos} {Q : Value → Heap → Prop}
    (x : hw M A (eval l env) (rqBin M A env r op Q) h) : hw M A (eval (.BinOp l op r p) env) Q h :=
  fun s e => wpAny_BinOp (wpAny_mono (x s e) (fun a s₁ y => wpAny_mono (y.2 s₁ rfl) (fun b s₂ z => wpAny_mono (z.2 s₂ rfl) (fun c s₃ u => ⟨(y.1.trans z.1).trans u.1, u.2⟩) fun _ _ f => f) fun _ _ f => f) fun _ _ f => f)
theorem hw_Compare {l r : Expr} {op : CmpOp} {p : Pos} {Q : Value → Heap → Prop}
    (x : hw M A (eval l env) (rqCmp M A env r op Q) h) (hm : behindInMarks op r = false := by with_unfolding_all rfl) : hw M A (eval (.Compare l [op] [r] p) env) Q h :=
  fun s e => wpAny_Compare1 (wpAny_mono (x s e) (fun a s₁ y => wpAny_mono (y.2 s₁ rfl) (fun b s₂ z => wpAny_mono (z.2 s₂ rfl) (fun c s₃ u => ⟨(y.1.trans z.1).trans u.1, u.2⟩) fun _ _ f => f) fun _ _ f => f) fun _ _ f => f) hm
theorem hw_isTrue_Compare {l r : Expr} {op : CmpOp} {p : Pos} {whole : Sem Value} {Q : Bool → Heap → Prop}
    (x : hw M A (eval l env) (rqCmp M A env r op (rqThen M A truthy Q)) h) (hm : behindInMarks op r = false := by with_unfolding_all rfl) : hw M A (isTrue (.Compare l [op] [r] p) env whole) Q h := by
  rw [isTrue_Compare1, markedBehindIn_of_false hm]
  refine hw_bind (hw_mono x fun a h₁ y => hw_bind (hw_holding (hw_mono y fun b h₂ z => hw_bind (hw_standAt (hw_bind ?_)))))
  unfold operate
  refine hw_bind (hw_holding (hw_mono z fun c h₃ u => hw_bind (fun s e => ?_)))
  exact fun Γ p hΓ => by rw [Sem.wp_release]; exact ⟨Sm.refl s, hw_pure (hw_holding (by exact e ▸ u))⟩
theorem hw_truthy_bool {b : Bool} {Q : Bool → Heap → Prop} (q : Q b h) : hw M A (truthy (.bool b)) Q h := fun s e => wpAny_truthy_bool ⟨Sm.refl s, e ▸ q⟩
theorem hw_If {test : Expr} {body orelse : List Stmt} {p : Pos} {Q : Flow → Heap → Prop}
    (x : hw M A (isTrue test env (eval test env)) (rqIf M A env body orelse Q) h) : hw M A (exec (.If test body orelse p) env) Q h := by
  rw [exec_If]
  refine hw_bind (hw_standAt (hw_bind (hw_mono x fun b h₂ y => ?_)))
  cases b <;> exact y
theorem hw_Return {e : Expr} {p : Pos} {Q : Flow → Heap → Prop} (x : hw M A (eval e env) (rqRet Q) h) : hw M A (exec (.Return (some e) p) env) Q h := by
  rw [exec_Return_some]
  exact hw_bind (hw_standAt (hw_bind (hw_mono x fun v h' y => hw_pure y)))
theorem hw_Assign {x : Str} {p' p : Pos} {value : Expr} {Q : Flow → Heap → Prop}
    (y : hw M A (eval value env) (rqThen M A (storeName env x) (rqNext Q)) h)
    (hs : swapsWith value (some (.Name x p')) p.line env = pure false := by rfl) : hw M A (exec (.Assign [.Name x p'] value p) env) Q h :=
  fun s e => wpAny_Assign_Name (wpAny_mono (y s e) (fun v s₁ z => wpAny_mono (z.2 s₁ rfl) (fun _ s₂ u => ⟨z.1.trans u.1, u.2⟩) fun _ _ f => f) fun _ _ f => f) hs
end

/-! ## ints -/
section
variable {prog : Program} {w : World} {A : Around} {h : Heap} {a b : Int} {t u : Tok} {Q : Value → Heap → Prop}
theorem hw_add (q : ∀ t, Q (.int (a + b) t) h) : hw (model prog w) A (binaryOp .Add (.int a t) (.int b u)) Q h := fun s e => PyProof.Rows.add_int ⟨Sm.refl s, e ▸ q _⟩
theorem hw_sub (q : ∀ t, Q (.int (a - b) t) h) : hw (model prog w) A (binaryOp .Sub (.int a t) (.int b u)) Q h := fun s e => PyProof.Rows.sub_int ⟨Sm.refl s, e ▸ q _⟩
theorem hw_mul (hm : IntMulOk a b) (q : ∀ t, Q (.int (a * b) t) h) : hw (model prog w) A (binaryOp .Mult (.int a t) (.int b u)) Q h := fun s e => PyProof.Rows.mul_int ⟨Sm.refl s, e ▸ q _⟩ hm
theorem hw_fdiv (hb : b ≠ 0) (hs : b.natAbs < 1073741824) (q : ∀ t, Q (.int (a.fdiv b) t) h) : hw (model prog w) A (binaryOp .FloorDiv (.int a t) (.int b u)) Q h := fun s e => PyProof.Rows.floordiv_int hb ⟨Sm.refl s, e ▸ q _⟩ (.inl (PyProof.noPylong_small hs))
theorem hw_fmod (hb : b ≠ 0) (q : ∀ t, Q (.int (a.fmod b) t) h) : hw (model prog w) A (binaryOp .Mod (.int a t) (.int b u)) Q h := fun s e => PyProof.Rows.mod_int hb ⟨Sm.refl s, e ▸ q _⟩
theorem hw_lt (q : Q (.bool (decide (a < b))) h) : hw (model prog w) A (compareOp .Lt (.int a t) (.int b u)) Q h := fun s e => PyProof.Rows.lt_int ⟨Sm.refl s, e ▸ q⟩
theorem hw_le (q : Q (.bool (decide (a ≤ b))) h) : hw (model prog w) A (compareOp .LtE (.int a t) (.int b u)) Q h := fun s e => PyProof.Rows.le_int ⟨Sm.refl s, e ▸ q⟩
theorem hw_gt (q : Q (.bool (decide (b < a))) h) : hw (model prog w) A (compareOp .Gt (.int a t) (.int b u)) Q h := fun s e => PyProof.Rows.gt_int ⟨Sm.refl s, e ▸ q⟩
theorem hw_ge (q : Q (.bool (decide (b ≤ a))) h) : hw (model prog w) A (compareOp .GtE (.int a t) (.int b u)) Q h := fun s e => PyProof.Rows.ge_int ⟨Sm.refl s, e ▸ q⟩
theorem hw_eq (q : Q (.bool (a == b)) h) : hw (model prog w) A (compareOp .Eq (.int a t) (.int b u)) Q h := fun s e => PyProof.Rows.eq_int ⟨Sm.refl s, e ▸ q⟩
theorem hw_ne (q : Q (.bool (a != b)) h) : hw (model prog w) A (compareOp .NotEq (.int a t) (.int b u)) Q h := fun s e => PyProof.Rows.ne_int ⟨Sm.refl s, e ▸ q⟩
end
end

-- B1
section
open PySem PySem.W PyProof.Rows

/-! ## A run never shortens the heap -/
theorem runs_grow {M : Model} {Γ : Ctx} {p : Pos} {t : Sem Fin} {fs : List Frame} {s s' : Shared} {e : End} (r : Runs M Γ p t fs s e s') : s.heap.objs.size ≤ s'.heap.objs.size := by
  induction r with
  | done | raise | yield => exact Nat.le_refl _
  | update _ _ ih => simpa using ih
  | alloc _ ih => simp only [Heap.size_push] at ih; lia
  | call _ _ i j | segRet _ _ i j => exact Nat.le_trans i j
  | resumeFresh _ _ _ _ i j | resumeSuspended _ _ _ _ i j => exact Nat.le_trans (show _ ≤ _ from i) j
  | segGen _ _ i j => exact Nat.le_trans i (show _ ≤ _ from j)
  | segSuspGen _ _ _ _ i j => exact Nat.le_trans i (show _ ≤ _ from j)
  | _ => assumption
theorem wakes_grow {M : Model} {Γ : Ctx} {p : Pos} {g : Nat} {r : Resume} {s s' : Shared} {res : GenResult} (x : Wakes M Γ p g r s res s') : s.heap.objs.size ≤ s'.heap.objs.size := by
  unfold Wakes at x
  split at x
  · exact x.elim
  · split at x
    · obtain ⟨e, s₁, a, _, _, rfl⟩ := x; exact (runs_grow a : _)
    · obtain ⟨_, rfl⟩ := x; exact Nat.le_refl _
    · obtain ⟨_, rfl⟩ := x; exact Nat.le_refl _
  · obtain ⟨e, s₁, a, _, _, rfl⟩ := x; exact (runs_grow a : _)
  · obtain ⟨_, rfl⟩ := x; exact Nat.le_refl _
  · obtain ⟨_, rfl⟩ := x; exact Nat.le_refl _
theorem wp_grow {α : Type} {M : Model} {Γ : Ctx} (t : Sem α) {Q : α → Pos → Shared → Prop} {E : Value → Pos → Shared → Prop} :
    ∀ {p : Pos} {s : Shared}, Sem.wp M Γ t Q E p s → Sem.wp M Γ t (fun a p' s' => s.heap.objs.size ≤ s'.heap.objs.size ∧ Q a p' s') E p s := by
  induction t with
  | pure a => exact fun q => ⟨Nat.le_refl _, q⟩
  | raise => exact fun q => q
  | unsupported | finish | yield | fork | await | register => exact fun q => q
  | update a _ f k ih =>
    intro p s ⟨x, y⟩
    refine ⟨x, Sem.wp_mono M Γ _ (fun a p' s' z => ⟨?_, z.2⟩) (fun _ _ _ z => z) _ _ (ih () y)⟩
    simpa using z.1
  | alloc o k ih =>
    intro p s y
    refine Sem.wp_mono M Γ _ (fun a p' s' z => ⟨?_, z.2⟩) (fun _ _ _ z => z) _ _ (ih _ y)
    have := z.1
    simp only [Heap.size_push] at this
    lia
  | load a _ k ih | genState a k ih => exact fun ⟨o, x, y⟩ => ⟨o, x, ih _ y⟩
  | choose _ _ k ih => exact fun ⟨x, y⟩ => ⟨x, ih _ y⟩
  | call c h g l k ih =>
    rintro p s ⟨r, s₁, x, y⟩
    exact ⟨r, s₁, x, Sem.wp_mono M Γ _ (fun a p' s' z => ⟨Nat.le_trans (runs_grow x) z.1, z.2⟩) (fun _ _ _ z => z) _ _ (ih r y)⟩
  | resume g r l k ih =>
    rintro p s ⟨res, s₁, x, y⟩
    exact ⟨res, s₁, x, Sem.wp_mono M Γ _ (fun a p' s' z => ⟨Nat.le_trans (wakes_grow x) z.1, z.2⟩) (fun _ _ _ z => z) _ _ (ih res y)⟩
  | rule _ k ih | «at» _ k ih | loadIfAlive _ k ih | point _ k ih | fresh k ih | ask k ih | os _ _ k ih | handled _ k ih | newGen _ k ih | stack k ih | thread k ih => exact fun y => ih _ y
theorem hw_grow {α : Type} {M : Model} {A : Around} {t : Sem α} {Q : α → Heap → Prop} {h : Heap} (x : hw M A t Q h) : hw M A t (fun a h' => h.objs.size ≤ h'.objs.size ∧ Q a h') h := by
  intro s e Γ p hΓ
  refine Sem.wp_mono M Γ _ (fun a p' s' z => ?_) (fun _ _ _ z => z) _ _ (wp_grow t (x s e Γ p hΓ))
  exact ⟨z.2.1, e ▸ z.1, z.2.2⟩

/-! ## The text's defs -/
noncomputable def fstmt (i : Nat) : Stmt := PySem.Challenge.pw_qw0003_01.main.body.getD i (.Pass ⟨0, 0, 0, 0⟩)
noncomputable def fname : Stmt → Str
  | .FunctionDef n .. => n
  | _ => Str.empty
noncomputable def fargs : Stmt → Arguments
  | .FunctionDef _ a .. => a
  | _ => ⟨[], [], none, [], [], none, []⟩
noncomputable def fbody : Stmt → List Stmt
  | .FunctionDef _ _ b .. => b
  | _ => []
noncomputable def fscope : Stmt → Scope
  | .FunctionDef _ _ _ _ _ _ sc .. => sc
  | _ => { kind := .function, names := [], isGenerator := false, isCoroutine := false, more := [] }
noncomputable def fdat (i : Nat) (dV kV pm : Value) (c : Addr) : FuncData :=
  { name := fname (fstmt i), qualname := fname (fstmt i), params := fargs (fstmt i), body := .stmts (fbody (fstmt i)), scope := fscope (fstmt i), globals := 3, closure := [], defaults := dV, kwdefaults := kV, pyModule := pm, code := .ref c }
noncomputable def fobj (i : Nat) (dV kV pm : Value) (c : Addr) : Obj := { cls := .type "function", data := .func (fdat i dV kV pm c) }
end

-- B2
section
open PySem PySem.W PyProof.Rows

/-! ## Frames -/
noncomputable def VarIs (h : Heap) (env : Env) (x : Str) (v : Value) : Prop :=
  (env.kindOf x = some .local ∧ ∃ m, h.Ns env.locals m ∧ m x = some v) ∨
  ((env.kindOf x = some .cell ∨ env.kindOf x = some .free) ∧ ∃ c, env.cells.lookup x = some c ∧ h.IsCell c (some v))
structure Fm (env : Env) (l : List (Str × Value)) (h : Heap) : Prop where
  loc : ∃ m, h.Ns env.locals m
  cel : ∀ x c, env.cells.lookup x = some c → ∃ v, h.IsCell c v
  var : ∀ p ∈ l, VarIs h env p.1 p.2
structure Es (env : Env) : Prop where
  kind : env.scope.kind = .function
  ne : ∀ x c, env.cells.lookup x = some c → c ≠ env.locals
  inj : ∀ x y c, env.cells.lookup x = some c → env.cells.lookup y = some c → x = y

theorem ns_keep {h h' : Heap} {U : List Addr} {a : Addr} {m : Str → Option Value} (x : h.Ns a m) (k : KX U h h') (ha : a ∉ U) : h'.Ns a m :=
  let ⟨o, es, ep, ho, r⟩ := x; ⟨o, es, ep, k.keep a o ha ho, r⟩
theorem cell_keep {h h' : Heap} {U : List Addr} {a : Addr} {v : Option Value} (x : h.IsCell a v) (k : KX U h h') (ha : a ∉ U) : h'.IsCell a v :=
  let ⟨o, ho, r⟩ := x; ⟨o, k.keep a o ha ho, r⟩
theorem list_keep {h h' : Heap} {U : List Addr} {a : Addr} {v : Array Value} (x : h.IsList a v) (k : KX U h h') (ha : a ∉ U) : h'.IsList a v :=
  let ⟨o, ho, r⟩ := x; ⟨o, k.keep a o ha ho, r⟩
theorem list_lt {h : Heap} {a : Addr} {v : Array Value} (x : h.IsList a v) : a < h.objs.size := let ⟨_, ho, _⟩ := x; Heap.lt_size ho
theorem listiter_keep {h h' : Heap} {U : List Addr} {a l : Addr} {i : Nat} (x : h.IsListIter a l i) (k : KX U h h') (ha : a ∉ U) : h'.IsListIter a l i :=
  let ⟨o, ho, r⟩ := x; ⟨o, k.keep a o ha ho, r⟩
theorem Fm.keep {env : Env} {l : List (Str × Value)} {h h' : Heap} {U : List Addr} (F : Fm env l h) (k : KX U h h') (h1 : env.locals ∉ U) (h2 : ∀ x c, env.cells.lookup x = some c → c ∉ U) : Fm env l h' where
  loc := let ⟨m, hm⟩ := F.loc; ⟨m, ns_keep hm k h1⟩
  cel := fun x c hx => let ⟨v, hv⟩ := F.cel x c hx; ⟨v, cell_keep hv k (h2 x c hx)⟩
  var := fun p hp => by
    rcases F.var p hp with ⟨a, m, b, c⟩ | ⟨a, c, b, d⟩
    · exact .inl ⟨a, m, ns_keep b k h1, c⟩
    · exact .inr ⟨a, c, b, cell_keep d k (h2 _ c b)⟩
theorem Fm.sub {env : Env} {l l' : List (Str × Value)} {h : Heap} (F : Fm env l h) (hs : ∀ p ∈ l', p ∈ l) : Fm env l' h := ⟨F.loc, F.cel, fun p hp => F.var p (hs p hp)⟩

section
variable {M : Model} {A : Around} {h : Heap} {env : Env} {x : Str} {v : Value}
theorem hw_loadVar {Q : Value → Heap → Prop} (V : VarIs h env x v) (hk : env.scope.kind = .function) (q : Q v h) (hn : (x == ("__classdict__" : Str)) = false := by decide) : hw M A (loadName env x) Q h := by
  intro s e
  subst e
  rcases V with ⟨a, m, b, c⟩ | ⟨a | a, c, b, d⟩
  · exact wpAny_loadName_local hk a b c ⟨Sm.refl s, q⟩
  · exact wpAny_loadName_cell hk a b d ⟨Sm.refl s, q⟩
  · exact wpAny_loadName_free hk a b d ⟨Sm.refl s, q⟩ hn
theorem hw_var {p : Pos} {Q : Value → Heap → Prop} (V : VarIs h env x v) (hk : env.scope.kind = .function) (q : Q v h) (hn : (x == ("__classdict__" : Str)) = false := by decide) (hd : (x == ("__debug__" : Str)) = false := by decide) :
    hw M A (eval (.Name x p) env) Q h := by
  rw [eval_Name env x p hd]
  exact hw_bind (hw_standAt (hw_loadVar V hk q hn))
theorem hw_glob {p : Pos} {Q : Value → Heap → Prop} {mg : Str → Option Value} (hg : h.Ns env.globals mg) (hv : mg x = some v) (hk : env.scope.kind = .function) (hx : env.kindOf x = some .globalImplicit) (q : Q v h)
    (hd : (x == ("__debug__" : Str)) = false := by decide) : hw M A (eval (.Name x p) env) Q h := fun s e => by
  subst e
  exact Calls.Name_function_global hk hx (Calls.loadGlobal_global hg hv ⟨Sm.refl s, q⟩) hd
theorem hw_bltn {p : Pos} {Q : Value → Heap → Prop} {mg mb : Str → Option Value} (hg : h.Ns env.globals mg) (hb : h.Ns env.builtins mb) (hv : mg x = none) (hv' : mb x = some v) (hk : env.scope.kind = .function) (hx : env.kindOf x = some .globalImplicit) (q : Q v h)
    (hd : (x == ("__debug__" : Str)) = false := by decide) : hw M A (eval (.Name x p) env) Q h := fun s e => by
  subst e
  exact Calls.Name_function_global hk hx (Calls.loadGlobal_builtin hg hv hb hv' ⟨Sm.refl s, q⟩) hd

/-- the address that a store of x turns -/
noncomputable def slotOf (env : Env) (x : Str) : Option Addr := match env.kindOf x with
  | some .local => some env.locals
  | some .cell => env.cells.lookup x
  | _ => none
theorem hw_store {l l' : List (Str × Value)} {a : Addr} {Q : Unit → Heap → Prop} (F : Fm env l h) (E : Es env) (ha : slotOf env x = some a) (hl : ∀ p ∈ l', p ∈ l ∧ p.1 ≠ x)
    (q : ∀ h', Heap.SameBut a h h' → Fm env ((x, v) :: l') h' → Q () h') : hw M A (storeName env x v) Q h := by
  intro s e
  subst e
  unfold slotOf at ha
  split at ha
  · rename_i hk
    cases ha
    obtain ⟨m, hm⟩ := F.loc
    refine wpAny_storeName_local hk hm (fun h' hn hs => ⟨⟨rfl, rfl, rfl⟩, q h' hs ⟨⟨_, hn⟩, fun y c hy => ?_, fun p hp => ?_⟩⟩) (by rw [E.kind]; rfl)
    · obtain ⟨v, hv⟩ := F.cel y c hy
      exact ⟨v, hv.sameBut hs (E.ne y c hy)⟩
    · rcases List.mem_cons.mp hp with rfl | hp
      · exact .inl ⟨hk, _, hn, by simp⟩
      · obtain ⟨hp, hne⟩ := hl p hp
        rcases F.var p hp with ⟨b, m', hm', c⟩ | ⟨b, c, d, e⟩
        · refine .inl ⟨b, _, hn, ?_⟩
          rw [if_neg hne]
          obtain ⟨o, es, ep, ho, hd, _, hf⟩ := hm
          obtain ⟨o', es', ep', ho', hd', _, hf'⟩ := hm'
          rw [ho] at ho'; cases ho'
          rw [hd] at hd'; cases hd'
          rw [← hf, hf', c]
        · exact .inr ⟨b, c, d, e.sameBut hs (E.ne _ c d)⟩
  · rename_i hk
    obtain ⟨v₀, hv⟩ := F.cel x a ha
    refine wpAny_storeName_cell E.kind hk ha hv fun h' hc hs => ⟨⟨rfl, rfl, rfl⟩, q h' hs ⟨?_, fun y c hy => ?_, fun p hp => ?_⟩⟩
    · obtain ⟨m, hm⟩ := F.loc
      exact ⟨m, hm.sameBut hs (Ne.symm (E.ne x a ha))⟩
    · by_cases hyx : c = a
      · subst hyx; exact ⟨_, hc⟩
      · obtain ⟨u, hu⟩ := F.cel y c hy
        exact ⟨u, hu.sameBut hs hyx⟩
    · rcases List.mem_cons.mp hp with rfl | hp
      · exact .inr ⟨.inl hk, a, ha, hc⟩
      · obtain ⟨hp, hne⟩ := hl p hp
        rcases F.var p hp with ⟨b, m', hm', c⟩ | ⟨b, c, d, e⟩
        · exact .inl ⟨b, m', hm'.sameBut hs (Ne.symm (E.ne x a ha)), c⟩
        · exact .inr ⟨b, c, d, e.sameBut hs fun z => hne (E.inj _ _ a (z ▸ d) ha)⟩
  · cases ha
end

/-! ## The whole state of a frame -/
noncomputable def addrTab : List (Addr × Obj) := [
  (28, fobj 2 .none .none (.str "cpy313.dis" 194) 27),
  (36, fobj 5 .none .none (.str "cpy313.base64" 205) 35),
  (56, fobj 8 .none .none (.str "binascii" 215) 55),
  (63, fobj 9 .none .none (.str "binascii" 215) 62),
  (70, fobj 10 .none .none (.str "binascii" 215) 69),
  (77, fobj 12 .none .none (.str "binascii" 215) 76),
  (85, fobj 13 .none (.ref 78) (.str "binascii" 215) 84),
  (93, fobj 14 .none (.ref 86) (.str "binascii" 215) 92),
  (101, fobj 16 (.ref 94) .none (.str "cpy313.base64" 298) 100),
  (109, fobj 17 (.ref 102) .none (.str "cpy313.base64" 298) 108),
  (116, fobj 19 .none .none (.str "cpy313.functools" 318) 115),
  (117, { cls := .type "object" }),
  (125, fobj 21 (.ref 118) .none (.str "cpy313.functools" 318) 124),
  (132, fobj 23 .none .none (.str "law_qw0003_01" 342) 131),
  (137, fobj 24 .none .none (.str "law_qw0003_01" 342) 136),
  (142, fobj 25 .none .none (.str "law_qw0003_01" 342) 141),
  (147, fobj 26 .none .none (.str "law_qw0003_01" 342) 146),
  (152, fobj 27 .none .none (.str "law_qw0003_01" 342) 151),
  (159, fobj 28 .none .none (.str "law_qw0003_01" 342) 158),
  (164, fobj 29 .none .none (.str "law_qw0003_01" 342) 163),
  (94, { cls := .type "tuple", data := .seq #[.none] }),
  (102, { cls := .type "tuple", data := .seq #[.none, .bool false] }),
  (118, { cls := .type "tuple", data := .seq #[.ref 117] })]
noncomputable def codeTab : List (Addr × Str) := [(27, "_parse_varint"), (35, "_bytes_from_decode_data"), (55, "_ascii_buffer"), (62, "_buffer"), (69, "_truth"), (76, "_b64_value"), (84, "a2b_base64"), (92, "b2a_base64"), (100, "b64encode"), (108, "b64decode"),
  (115, "cmp_to_key"), (124, "reduce"), (131, "_law_digits"), (136, "_law_row"), (141, "_law_signs"), (146, "_law_order"), (151, "_law_read"), (158, "_law_asked"), (163, "law")]
noncomputable def globTab : List (Str × Value) := [("_parse_varint", .ref 28), ("bytes_types", .ref 29), ("_bytes_from_decode_data", .ref 36), ("_ascii_buffer", .ref 56), ("_buffer", .ref 63), ("_truth", .ref 70), ("_b64_value", .ref 77), ("a2b_base64", .ref 85), ("b2a_base64", .ref 93), ("b64encode", .ref 101), ("b64decode", .ref 109),
  ("cmp_to_key", .ref 116), ("_initial_missing", .ref 117), ("reduce", .ref 125), ("_law_digits", .ref 132), ("_law_row", .ref 137), ("_law_signs", .ref 142), ("_law_order", .ref 147), ("_law_read", .ref 152), ("_law_asked", .ref 159),
  ("_B64", .bytes #[65, 66, 67, 68, 69, 70, 71, 72, 73, 74, 75, 76, 77, 78, 79, 80, 81, 82, 83, 84, 85, 86, 87, 88, 89, 90, 97, 98, 99, 100, 101, 102, 103, 104, 105, 106, 107, 108, 109, 110, 111, 112, 113, 114, 115, 116, 117, 118, 119, 120, 121, 122, 48, 49, 50, 51, 52, 53, 54, 55, 56, 57, 43, 47] 259)]
noncomputable def bltTab : List (Str × Value) := [("next", .builtin "next"), ("isinstance", .builtin "isinstance"), ("str", .type "str"), ("bytes", .type "bytes"), ("bytearray", .type "bytearray"), ("type", .type "type"), ("bool", .type "bool"), ("int", .type "int"), ("len", .builtin "len"), ("range", .type "range"), ("iter", .builtin "iter"), ("zip", .type "zip"),
  ("sorted", .builtin "sorted"), ("sum", .builtin "sum"), ("max", .builtin "max"), ("chr", .builtin "chr")]
structure Gd (mg mb : Str → Option Value) (h : Heap) : Prop where
  gn : ∀ p ∈ globTab, mg p.1 = some p.2
  bn : ∀ p ∈ bltTab, mg p.1 = none ∧ mb p.1 = some p.2
  g : h.Ns 3 mg
  b : h.Ns 0 mb
  nl : ∃ mc, h.Ns 2 mc ∧ mc "sys.recursionlimit" = none
  at_ : ∀ p ∈ addrTab, h.get? p.1 = some p.2
  cd : ∀ p ∈ codeTab, h.CodeRec (.ref p.1) p.2
  sz : 166 ≤ h.objs.size
theorem Gd.lim {mg mb : Str → Option Value} {h : Heap} (G : Gd mg mb h) : h.NoLimit := G.nl
/-- what may turn: the two code tables and what lies above the top -/
noncomputable def Hi (U : List Addr) : Prop := ∀ a ∈ U, 166 ≤ a ∨ a = 111 ∨ a = 161
theorem Hi.not {U : List Addr} (x : Hi U) {a : Addr} (h1 : a < 166) (h2 : a ≠ 111) (h3 : a ≠ 161) : a ∉ U := fun hm => by
  rcases x a hm with h | h | h
  · exact absurd h (Nat.not_le.mpr h1)
  · exact h2 h
  · exact h3 h
theorem tab_ok : ∀ p ∈ addrTab, p.1 < 166 ∧ p.1 ≠ 111 ∧ p.1 ≠ 161 := by
  intro p hp
  simp only [addrTab, List.mem_cons, List.not_mem_nil, or_false] at hp
  rcases hp with rfl | rfl | rfl | rfl | rfl | rfl | rfl | rfl | rfl | rfl | rfl | rfl | rfl | rfl | rfl | rfl | rfl | rfl | rfl | rfl | rfl | rfl | rfl <;> exact ⟨by decide, by decide, by decide⟩
theorem ctab_ok : ∀ p ∈ codeTab, p.1 < 166 ∧ p.1 ≠ 111 ∧ p.1 ≠ 161 := by
  intro p hp
  simp only [codeTab, List.mem_cons, List.not_mem_nil, or_false] at hp
  rcases hp with rfl | rfl | rfl | rfl | rfl | rfl | rfl | rfl | rfl | rfl | rfl | rfl | rfl | rfl | rfl | rfl | rfl | rfl | rfl <;> exact ⟨by decide, by decide, by decide⟩
theorem Gd.keep {mg mb : Str → Option Value} {h h' : Heap} {U : List Addr} (G : Gd mg mb h) (k : KX U h h') (hU : Hi U) : Gd mg mb h' where
  gn := G.gn
  bn := G.bn
  g := ns_keep G.g k (hU.not (by decide) (by decide) (by decide))
  b := ns_keep G.b k (hU.not (by decide) (by decide) (by decide))
  nl := let ⟨mc, x, y⟩ := G.nl; ⟨mc, ns_keep x k (hU.not (by decide) (by decide) (by decide)), y⟩
  at_ := fun p hp => let ⟨x, y, z⟩ := tab_ok p hp; k.keep _ _ (hU.not x y z) (G.at_ p hp)
  cd := fun p hp => by
    obtain ⟨x, y, z⟩ := ctab_ok p hp
    obtain ⟨c, o, vs, t, e, ho, r⟩ := G.cd p hp
    cases e
    exact ⟨_, o, vs, t, rfl, k.keep _ _ (hU.not x y z) ho, r⟩
  sz := Nat.le_trans G.sz k.sz

/-- what a heap's fact leans on -/
noncomputable def Dep (D : List Addr) (I : Heap → Prop) : Prop := ∀ U : List Addr, (∀ a ∈ U, a ∉ D) → ∀ h₁ h₂, KX U h₁ h₂ → I h₁ → I h₂
theorem Dep.true : Dep [] (fun _ => True) := fun _ _ _ _ _ _ => trivial
theorem Dep.pure (p : Prop) : Dep [] (fun _ => p) := fun _ _ _ _ _ x => x
theorem Dep.list (a : Addr) (v : Array Value) : Dep [a] (fun h => h.IsList a v) := fun _ hu _ _ k x => list_keep x k fun hm => hu a hm (.head _)
theorem Dep.cell (a : Addr) (v : Option Value) : Dep [a] (fun h => h.IsCell a v) := fun _ hu _ _ k x => cell_keep x k fun hm => hu a hm (.head _)
theorem Dep.obj (a : Addr) (o : Obj) : Dep [a] (fun h => h.get? a = some o) := fun _ hu _ _ k x => k.keep a o (fun hm => hu a hm (.head _)) x
theorem Dep.and {D D' : List Addr} {I I' : Heap → Prop} (x : Dep D I) (y : Dep D' I') : Dep (D ++ D') (fun h => I h ∧ I' h) :=
  fun U hu h₁ h₂ k z => ⟨x U (fun a ha hm => hu a ha (List.mem_append_left _ hm)) h₁ h₂ k z.1, y U (fun a ha hm => hu a ha (List.mem_append_right _ hm)) h₁ h₂ k z.2⟩
theorem Dep.mono {D D' : List Addr} {I : Heap → Prop} (x : Dep D I) (hs : ∀ a ∈ D, a ∈ D') : Dep D' I := fun U hu h₁ h₂ k z => x U (fun a ha hm => hu a ha (hs a hm)) h₁ h₂ k z
theorem Dep.call {D : List Addr} {I : Heap → Prop} (x : Dep D I) {h h' : Heap} (k : KX [] h h') (i : I h) : I h' := x [] (fun _ hm => nomatch hm) h h' k i
/-- leans on what stands in h alone -/
noncomputable def DepIn (h : Heap) (I : Heap → Prop) : Prop := ∃ D, Dep D I ∧ ∀ a ∈ D, a < h.objs.size
theorem DepIn.true (h : Heap) : DepIn h (fun _ => True) := ⟨[], Dep.true, fun _ hm => nomatch hm⟩
theorem DepIn.list {h : Heap} {a : Addr} {v : Array Value} (x : h.IsList a v) : DepIn h (fun h => h.IsList a v) := ⟨[a], Dep.list a v, fun b hb => by cases List.mem_singleton.mp hb; exact list_lt x⟩
theorem DepIn.and {h : Heap} {I I' : Heap → Prop} (x : DepIn h I) (y : DepIn h I') : DepIn h (fun h => I h ∧ I' h) :=
  let ⟨D, a, b⟩ := x; let ⟨D', a', b'⟩ := y; ⟨D ++ D', a.and a', fun c hc => (List.mem_append.mp hc).elim (b c) (b' c)⟩

structure St (mg mb : Str → Option Value) (X : List Addr) (B : Heap) (W : List Addr) (env : Env) (l : List (Str × Value)) (I : Heap → Prop) (h : Heap) : Prop where
  g : Gd mg mb h
  base : KX X B h
  fm : Fm env l h
  imm : I h
  es : Es env
  gl : env.globals = 3
  bl : env.builtins = 0
  hi : Hi W
  wb : ∀ a ∈ W, B.objs.size ≤ a ∨ a ∈ X
  wlt : ∀ a ∈ W, a < h.objs.size
  dep : ∃ D, Dep D I ∧ (∀ a ∈ D, a < h.objs.size) ∧ (∀ a ∈ W, a ∉ D)

theorem KX.above {X W : List Addr} {B h h' : Heap} (x : KX X B h) (y : KX W h h') (hW : ∀ a ∈ W, B.objs.size ≤ a ∨ a ∈ X) : KX X B h' :=
  ⟨Nat.le_trans x.sz y.sz, fun b o hb e => y.keep b o (fun hm => (hW b hm).elim (fun q => Nat.lt_irrefl _ (Nat.lt_of_lt_of_le (Heap.lt_size e) q)) hb) (x.keep b o hb e)⟩

section
variable {mg mb : Str → Option Value} {X : List Addr} {B : Heap} {W : List Addr} {env : Env} {l : List (Str × Value)} {I : Heap → Prop} {h h' : Heap}
theorem St.stab (S : St mg mb X B W env l I h) (k : KX W h h') : I h' := let ⟨_, a, _, c⟩ := S.dep; a W c h h' k S.imm
/-- own things have turned, and the frame's stand by F -/
theorem St.step (S : St mg mb X B W env l I h) {l' : List (Str × Value)} (k : KX W h h') (F : Fm env l' h') : St mg mb X B W env l' I h' :=
  { S with g := S.g.keep k S.hi, base := S.base.above k S.wb, fm := F, imm := S.stab k, wlt := fun a ha => Nat.lt_of_lt_of_le (S.wlt a ha) k.sz, dep := let ⟨D, a, b, c⟩ := S.dep; ⟨D, a, fun d hd => Nat.lt_of_lt_of_le (b d hd) k.sz, c⟩ }
/-- a call that leaves all as it was -/
theorem St.call (S : St mg mb X B W env l I h) (k : KX [] h h') : St mg mb X B W env l I h' :=
  S.step k.any (S.fm.keep k (fun hm => nomatch hm) (fun _ _ _ hm => nomatch hm))
/-- a call that turns some of the own things, none of the frame's -/
theorem St.callX {U : List Addr} (S : St mg mb X B W env l I h) (k : KX U h h') (hU : ∀ a ∈ U, a ∈ W) (h1 : env.locals ∉ U) (h2 : ∀ x c, env.cells.lookup x = some c → c ∉ U) : St mg mb X B W env l I h' :=
  S.step (k.mono hU) (S.fm.keep k h1 h2)
theorem St.add {P : Heap → Prop} {D : List Addr} (S : St mg mb X B W env l I h) (p : P h) (d : Dep D P) (hd : ∀ a ∈ D, a < h.objs.size ∧ a ∉ W) : St mg mb X B W env l (fun h => P h ∧ I h) h :=
  { S with imm := ⟨p, S.imm⟩, dep := let ⟨D', a, b, c⟩ := S.dep; ⟨D ++ D', d.and a, fun x hx => (List.mem_append.mp hx).elim (fun q => (hd x q).1) (b x), fun x hx hm => (List.mem_append.mp hm).elim (fun q => (hd x q).2 hx) (c x hx)⟩ }
theorem St.addList {a : Addr} {items : Array Value} (S : St mg mb X B W env l I h) (p : h.IsList a items) (ha : a ∉ W) : St mg mb X B W env l (fun h => h.IsList a items ∧ I h) h :=
  S.add p (Dep.list a items) fun b hb => by cases List.mem_singleton.mp hb; exact ⟨list_lt p, ha⟩
theorem St.new (S : St mg mb X B W env l I h) {a : Addr} (ha : h.objs.size ≤ a) : a ∉ W := fun hm => Nat.lt_irrefl _ (Nat.lt_of_lt_of_le (S.wlt a hm) ha)
theorem St.weak {I' : Heap → Prop} (S : St mg mb X B W env l I h) (hs : ∀ h, I h → I' h) (hs' : ∀ h, I' h → I h) : St mg mb X B W env l I' h :=
  { S with imm := hs _ S.imm, dep := let ⟨D, a, b, c⟩ := S.dep; ⟨D, fun U hu h₁ h₂ k z => hs _ (a U hu h₁ h₂ k (hs' _ z)), b, c⟩ }
theorem St.sub {l' : List (Str × Value)} (S : St mg mb X B W env l I h) (hs : ∀ p ∈ l', p ∈ l) : St mg mb X B W env l' I h := { S with fm := S.fm.sub hs }
theorem St.depIn (S : St mg mb X B W env l I h) : DepIn h I := let ⟨D, a, b, _⟩ := S.dep; ⟨D, a, b⟩
variable {M : Model} {A : Around} {x : Str} {v : Value}
theorem hs_var {p : Pos} {Q : Value → Heap → Prop} (S : St mg mb X B W env l I h) (hm : (x, v) ∈ l) (q : Q v h) (hn : (x == ("__classdict__" : Str)) = false := by decide) (hd : (x == ("__debug__" : Str)) = false := by decide) :
    hw M A (eval (.Name x p) env) Q h := hw_var (S.fm.var _ hm) S.es.kind q hn hd
theorem hs_load {Q : Value → Heap → Prop} (S : St mg mb X B W env l I h) (hm : (x, v) ∈ l) (q : Q v h) (hn : (x == ("__classdict__" : Str)) = false := by decide) :
    hw M A (loadName env x) Q h := hw_loadVar (S.fm.var _ hm) S.es.kind q hn
theorem hs_glob {p : Pos} {Q : Value → Heap → Prop} (S : St mg mb X B W env l I h) (hv : (x, v) ∈ globTab) (hx : env.kindOf x = some .globalImplicit) (q : Q v h) (hd : (x == ("__debug__" : Str)) = false := by decide) :
    hw M A (eval (.Name x p) env) Q h := hw_glob (S.gl ▸ S.g.g) (S.g.gn _ hv) S.es.kind hx q hd
theorem hs_bltn {p : Pos} {Q : Value → Heap → Prop} (S : St mg mb X B W env l I h) (hv : (x, v) ∈ bltTab) (hx : env.kindOf x = some .globalImplicit) (q : Q v h) (hd : (x == ("__debug__" : Str)) = false := by decide) :
    hw M A (eval (.Name x p) env) Q h := hw_bltn (S.gl ▸ S.g.g) (S.bl ▸ S.g.b) (S.g.bn _ hv).1 (S.g.bn _ hv).2 S.es.kind hx q hd
theorem hs_store {l' : List (Str × Value)} {a : Addr} {Q : Unit → Heap → Prop} (S : St mg mb X B W env l I h) (ha : slotOf env x = some a) (hw' : a ∈ W) (hl : ∀ p ∈ l', p ∈ l ∧ p.1 ≠ x)
    (q : ∀ h', Heap.SameBut a h h' → St mg mb X B W env ((x, v) :: l') I h' → Q () h') : hw M A (storeName env x v) Q h :=
  hw_store S.fm S.es ha hl fun h' hs F => q h' hs (S.step (KX.same hs hw') F)
end

inductive Dr (x : Str) : List (Str × Value) → List (Str × Value) → Prop
  | nil : Dr x [] []
  | hit {v : Value} {l l' : List (Str × Value)} : Dr x l l' → Dr x ((x, v) :: l) l'
  | miss {y : Str} {v : Value} {l l' : List (Str × Value)} : y ≠ x → Dr x l l' → Dr x ((y, v) :: l) ((y, v) :: l')
theorem Dr.mem {x : Str} {l l' : List (Str × Value)} (d : Dr x l l') : ∀ p ∈ l', p ∈ l ∧ p.1 ≠ x := by
  induction d with
  | nil => intro p hp; cases hp
  | hit _ ih => exact fun p hp => ⟨.tail _ (ih p hp).1, (ih p hp).2⟩
  | miss hy _ ih =>
    intro p hp
    rcases List.mem_cons.mp hp with rfl | hp
    · exact ⟨.head _, hy⟩
    · exact ⟨.tail _ (ih p hp).1, (ih p hp).2⟩
theorem hs_put {mg mb : Str → Option Value} {X : List Addr} {B : Heap} {W : List Addr} {env : Env} {l l' : List (Str × Value)} {I : Heap → Prop} {h : Heap} {M : Model} {A : Around} {x : Str} {v : Value} {a : Addr} {Q : Unit → Heap → Prop}
    (S : St mg mb X B W env l I h) (ha : slotOf env x = some a) (hw' : a ∈ W) (hl : Dr x l l') (q : ∀ h', Heap.SameBut a h h' → St mg mb X B W env ((x, v) :: l') I h' → Q () h') : hw M A (storeName env x v) Q h := hs_store S ha hw' hl.mem q

/-! ## Calls of the text's defs -/
structure Ok (A : Around) (n : Nat) : Prop where
  hd : A.handled = none
  dp : A.depth + n < recursionLimit
  un : A.units + 8 * n < cLine
theorem Ok.mono {A : Around} {n m : Nat} (x : Ok A n) (hm : m ≤ n) : Ok A m := ⟨x.hd, by have := x.dp; lia, by have := x.un; lia⟩
theorem Ok.deeper {A : Around} {n : Nat} {env : Env} (x : Ok A (n + 1)) : Ok (A.deeper env) n := ⟨x.hd, by have := x.dp; show A.depth + 1 + n < _; lia, by have := x.un; show A.units + 3 + 8 * n < _; lia⟩
theorem Ok.in1 {A : Around} {n : Nat} (x : Ok A (n + 1)) : Ok A.in1 n := ⟨x.hd, by have := x.dp; show A.depth + n < _; lia, by have := x.un; show A.units + 1 + 8 * n < _; lia⟩

section
variable {prog : Program} {w : World} {A : Around} {mg mb : Str → Option Value} {h : Heap} {f : Addr}
/-- a def without cells -/
theorem hw_def {fd : FuncData} {o : Obj} {body : List Stmt} {args : List Value} {kw : List (Str × Value)} {binds : List (Str × Value)} {I : Heap → Prop} {Q : Value → Heap → Prop} {n : Nat}
    (OK : Ok A (n + 1)) (G : Gd mg mb h) (ho : h.get? f = some o) (hd : o.data = .func fd) (hcd : h.CodeRec fd.code fd.qualname) (hbody : fd.body = .stmts body)
    (hbind : ∀ s : Shared, s.heap = h → BindsTo s fd ⟨args, kw⟩ binds) (hcell : ∀ x ∈ fd.scope.names, x.2 ≠ .cell) (hloc : ∀ x ∈ binds, fd.scope.names.lookup x.1 = some .local) (hnd : (binds.map (·.1)).Nodup)
    (i : I h) (hi : DepIn h I) (hg : fd.globals = 3) (hb : fd.builtins = 0) (hclo : fd.closure = [])
    (x : ∀ A' h₁, Ok A' n → St mg mb [] h [h.objs.size] (callEnv fd h.objs.size f) binds I h₁ →
      hw (model prog w) A' (execs body (callEnv fd h.objs.size f)) (rqFn Q) h₁)
    (hco : fd.scope.isCoroutine = false := by rfl) (hgen : fd.scope.isGenerator = false := by rfl) (hk : fd.scope.kind = .function := by rfl) : hw (model prog w) A (call (.ref f) args kw) Q h := by
  refine hw_call fun s e => ?_
  subst e
  refine codeAny_call_def (by have := OK.dp; lia) ho hd G.lim hcd hbody (hbind s rfl) hcell hloc (fun h₀ hns k => ?_) hco hgen hk
  have sz : s.heap.objs.size < h₀.objs.size := hns.lt
  have kx : KX [] s.heap h₀ := KX.of_all (Nat.le_of_lt sz) k
  obtain ⟨D, hD, hlt⟩ := hi
  have S : St mg mb [] s.heap [s.heap.objs.size] (callEnv fd s.heap.objs.size f) binds I h₀ :=
    { g := G.keep kx (fun _ hm => nomatch hm), base := kx
      fm := ⟨⟨_, hns⟩, fun x c hx => (by simp only [callEnv, newEnv, hclo, List.lookup_nil] at hx; cases hx), fun p hp => .inl ⟨hloc p hp, _, hns, by
        clear hbind hloc x
        have : ∀ (l : List (Str × Value)), (l.map (·.1)).Nodup → p ∈ l → l.lookup p.1 = some p.2 := by
          intro l
          induction l with
          | nil => intro _ hm; cases hm
          | cons q r ih =>
            obtain ⟨k, u⟩ := q
            intro hn hm
            rw [List.map_cons, List.nodup_cons] at hn
            rcases List.mem_cons.mp hm with rfl | hm
            · rw [List.lookup_cons, beq_self_eq_true]
            · have : p.1 ≠ k := fun e => hn.1 (by show k ∈ _; rw [← e]; exact List.mem_map_of_mem (f := Prod.fst) hm)
              rw [List.lookup_cons, beq_eq_false_iff_ne.mpr this]
              exact ih hn.2 hm
        exact this _ (by rw [List.map_reverse]; exact List.pairwise_reverse.mpr (hnd.imp Ne.symm)) (List.mem_reverse.mpr hp)⟩⟩
      imm := hD.call kx i
      es := ⟨hk, fun x c hx => (by simp only [callEnv, newEnv, hclo, List.lookup_nil] at hx; cases hx), fun x y c hx => (by simp only [callEnv, newEnv, hclo, List.lookup_nil] at hx; cases hx)⟩
      gl := hg, bl := hb
      hi := fun a ha => by cases List.mem_singleton.mp ha; exact .inl G.sz
      wb := fun a ha => by cases List.mem_singleton.mp ha; exact .inl (Nat.le_refl _)
      wlt := fun a ha => by cases List.mem_singleton.mp ha; exact sz
      dep := ⟨D, hD, fun a ha => Nat.lt_trans (hlt a ha) sz, fun a ha hm => by cases List.mem_singleton.mp ha; exact Nat.lt_irrefl _ (hlt _ hm)⟩ }
  have y := x (A.deeper (callEnv fd s.heap.objs.size f)) h₀ OK.deeper S { s with heap := h₀, toks := s.toks + binds.length } rfl
  refine wpAny_mono y (fun fl s' z => ?_) fun _ _ z => z.elim
  cases fl <;> exact ⟨z.1, z.2⟩
end
end

-- B3
section
open PySem PySem.W PyProof.Rows
section
variable {prog : Program} {w : World} {A : Around} {mg mb : Str → Option Value} {h : Heap}
theorem hw_fn (j j' i : Nat) {f c : Addr} {dV kV pm : Value} (hm : addrTab[j]? = some (f, fobj i dV kV pm c)) (hcm : codeTab[j']? = some (c, fname (fstmt i))) (binds : List (Str × Value)) (bn : List Str) {args : List Value} {kw : List (Str × Value)} (I : Heap → Prop) {Q : Value → Heap → Prop} {n : Nat}
    (OK : Ok A (n + 1)) (G : Gd mg mb h) (hbind : ∀ s : Shared, s.heap = h → BindsTo s (fdat i dV kV pm c) ⟨args, kw⟩ binds)
    (hcell : ((fscope (fstmt i)).names.all fun x => x.2 != .cell) = true) (hloc : (bn.all fun x => (fscope (fstmt i)).names.lookup x == some .local) = true) (hnd : bn.Nodup) (hbn : binds.map (·.1) = bn)
    (ii : I h) (hi : DepIn h I)
    (x : ∀ A' h₁, Ok A' n → St mg mb [] h [h.objs.size] (callEnv (fdat i dV kV pm c) h.objs.size f) binds I h₁ →
      hw (model prog w) A' (execs (fbody (fstmt i)) (callEnv (fdat i dV kV pm c) h.objs.size f)) (rqFn Q) h₁)
    (hsc : ((fscope (fstmt i)).isCoroutine, (fscope (fstmt i)).isGenerator, (fscope (fstmt i)).kind) = (false, false, .function)) : hw (model prog w) A (call (.ref f) args kw) Q h := by
  refine hw_def OK G (G.at_ _ (List.mem_of_getElem? hm)) rfl (G.cd _ (List.mem_of_getElem? hcm)) rfl hbind (fun y hy => by simpa using List.all_eq_true.mp hcell y hy) (fun y hy => by show (fscope (fstmt i)).names.lookup y.1 = _; simpa using List.all_eq_true.mp hloc y.1 (by rw [← hbn]; exact List.mem_map_of_mem hy))
    (hbn ▸ hnd) ii hi rfl rfl rfl x (congrArg (·.1) hsc) (congrArg (·.2.1) hsc) (congrArg (·.2.2) hsc)
end
end

-- B4
section
open PySem PySem.W PyProof.Rows
section
variable {α β : Type} {M : Model} {A : Around} {h : Heap} {env : Env}
theorem nest {t : Sem α} {u : α → Sem β} {Q : β → Heap → Prop} (x : hw M A t (fun v h₁ => hw M A (u v) Q h₁) h) (s : Shared) (e : s.heap = h) :
    wpAny M A t (fun v s₁ => wpAny M A (u v) (fun b s₂ => Sm s s₂ ∧ Q b s₂.heap) (fun _ _ => False) s₁) (fun _ _ => False) s :=
  wpAny_mono (x s e) (fun _ s₁ y => wpAny_mono (y.2 s₁ rfl) (fun _ _ z => ⟨y.1.trans z.1, z.2⟩) fun _ _ f => f) fun _ _ f => f
theorem hw_isTrue_plain {e : Expr} {whole : Sem Value} {Q : Bool → Heap → Prop} (x : hw M A whole (rqThen M A truthy Q) h)
    (he : isTrue e env whole = (do let v ← whole; standAt e.pos; holding [v] (truthy v)) := by rfl) : hw M A (isTrue e env whole) Q h := by
  rw [he]
  exact hw_bind (hw_mono x fun v h₁ y => hw_bind (hw_standAt (hw_holding y)))
theorem hw_isTrue_not {e : Expr} {p : Pos} {whole : Sem Value} {Q : Bool → Heap → Prop} (x : hw M A (isTrue e env (eval e env)) (rqNot Q) h) : hw M A (isTrue (.UnaryOp .Not e p) env whole) Q h := by
  show hw M A (do return !(← isTrue e env (eval e env))) Q h
  exact hw_bind (hw_mono x fun _ _ y => hw_pure y)
theorem hw_and_nil {p : Pos} {whole : Sem Value} {Q : Bool → Heap → Prop} (q : Q true h) : hw M A (isTrue (.BoolOp .And [] p) env whole) Q h := hw_pure (a := true) q
theorem hw_or_nil {p : Pos} {whole : Sem Value} {Q : Bool → Heap → Prop} (q : Q false h) : hw M A (isTrue (.BoolOp .Or [] p) env whole) Q h := hw_pure (a := false) q
theorem hw_and {e : Expr} {rest : List Expr} {p : Pos} {whole : Sem Value} {Q : Bool → Heap → Prop}
    (x : hw M A (isTrue e env (eval e env)) (rqAnd M A env rest p whole Q) h) : hw M A (isTrue (.BoolOp .And (e :: rest) p) env whole) Q h := by
  show hw M A (do match BoolOp.And, ← isTrue e env (eval e env) with | .And, false => pure false | .Or, true => pure true | _, _ => allTrue .And rest env) Q h
  refine hw_bind (hw_mono x fun c h' y => ?_)
  cases c
  · exact hw_pure y
  · exact y
theorem hw_or {e : Expr} {rest : List Expr} {p : Pos} {whole : Sem Value} {Q : Bool → Heap → Prop}
    (x : hw M A (isTrue e env (eval e env)) (rqOr M A env rest p whole Q) h) : hw M A (isTrue (.BoolOp .Or (e :: rest) p) env whole) Q h := by
  show hw M A (do match BoolOp.Or, ← isTrue e env (eval e env) with | .And, false => pure false | .Or, true => pure true | _, _ => allTrue .Or rest env) Q h
  refine hw_bind (hw_mono x fun c h' y => ?_)
  cases c
  · exact y
  · exact hw_pure y
theorem hw_operate {vs : List Value} {m : Sem Value} {Q : Value → Heap → Prop} (x : hw M A m Q h) : hw M A (operate vs m) Q h := fun s e Γ p hΓ => by
  rw [Sem.wp_operate]; exact x s e Γ p hΓ
theorem hw_release {vs keep : List Value} {Q : Unit → Heap → Prop} (q : Q () h) : hw M A (release vs keep) Q h := fun s e Γ p _ => by
  rw [Sem.wp_release]; exact ⟨Sm.refl s, e ▸ q⟩
theorem hw_isTrue_chain {l m r : Expr} {o₁ o₂ : CmpOp} {p : Pos} {whole : Sem Value} {Q : Bool → Heap → Prop}
    (x : hw M A (eval l env) (rqCh1 M A env m r o₁ o₂ Q) h)
    (hm : behindInMarks o₂ r = false := by with_unfolding_all rfl) : hw M A (isTrue (.Compare l [o₁, o₂] [m, r] p) env whole) Q h := by
  show hw M A (do testChain p (← eval l env) [o₁, o₂] [eval m env, markedBehindIn o₂ r (eval r env)]) Q h
  rw [markedBehindIn_of_false hm]
  refine hw_bind (hw_mono x fun a h₁ y => ?_)
  show hw M A (do
    let rv ← holding [a] (eval m env)
    standAt p
    let c ← holding [a, rv] (compareOp o₁ a rv)
    release [a, rv] [c]
    if ← holding [c, rv] (truthy c) then testChain p rv [o₂] [eval r env] else pure false) Q h₁
  refine hw_bind (hw_holding (hw_mono y fun b h₂ z => hw_bind (hw_standAt (hw_bind (hw_holding (hw_mono z fun c h₃ u => hw_bind (hw_release (hw_bind (hw_holding (hw_mono u fun t h₄ v => ?_))))))))))
  cases t
  · exact hw_pure v
  · show hw M A (do
      let rv ← holding [b] (eval r env)
      standAt p
      let c ← operate [b, rv] (compareOp o₂ b rv)
      holding [c] (truthy c)) Q h₄
    exact hw_bind (hw_holding (hw_mono (by exact v) fun d h₅ w => hw_bind (hw_standAt (hw_bind (hw_operate (hw_mono w fun c h₆ k => hw_holding k))))))
theorem hw_IfExp {test body orelse : Expr} {p : Pos} {Q : Value → Heap → Prop} (x : hw M A (isTrue test env (eval test env)) (rqIfE M A env body orelse Q) h) :
    hw M A (eval (.IfExp test body orelse p) env) Q h := by
  show hw M A (do if ← isTrue test env (eval test env) then eval body env else eval orelse env) Q h
  refine hw_bind (hw_mono x fun b h₂ y => ?_)
  cases b <;> exact y
theorem hw_truthy_none {Q : Bool → Heap → Prop} (q : Q false h) : hw M A (truthy .none) Q h := fun s e => PyProof.Rows.truthy_none ⟨Sm.refl s, e ▸ q⟩
theorem hw_if {b : Bool} {t f : Prop} (hb : b = true → t) (hf : b = false → f) : (if b then t else f) := by
  cases b
  · exact hf rfl
  · exact hb rfl
theorem hw_dec {c : Prop} {i : Decidable c} {t f : Prop} (hb : c → t) (hf : ¬ c → f) : (if decide c = true then t else f) := by
  by_cases hc : c
  · rw [decide_eq_true hc]; exact hb hc
  · rw [decide_eq_false hc]; exact hf hc
theorem hw_beq {a b : Int} {t f : Prop} (hb : a = b → t) (hf : a ≠ b → f) : (if (a == b) = true then t else f) := by
  by_cases hc : a = b
  · rw [beq_iff_eq.mpr hc]; exact hb hc
  · rw [beq_eq_false_iff_ne.mpr hc]; exact hf hc
theorem hw_bne {a b : Int} {t f : Prop} (hb : a ≠ b → t) (hf : a = b → f) : (if (a != b) = true then t else f) := by
  by_cases hc : a = b
  · rw [show (a != b) = false from by simp [hc]]; exact hf hc
  · rw [show (a != b) = true from by simp [hc]]; exact hb hc
end
end

-- B5
section
open PySem PySem.W PyProof.Rows

/-! ## Iterators -/
structure Itr (M : Model) (it : Value) (D wi : List Addr) (n : Nat) (V : Nat → Value → Heap → Prop) (P : Nat → Heap → Prop) : Prop where
  next : ∀ (A : Around) (i : Nat) (h : Heap), A.handled = none → P i h → hw M A (pyNext it) (fun r h' => KX wi h h' ∧ ((r = none ∧ n ≤ i) ∨ ∃ v, r = some v ∧ i < n ∧ V i v h' ∧ P (i + 1) h')) h
  iter : ∀ (A : Around) (i : Nat) (h : Heap), P i h → hw M A (pyIter it) (fun r h' => r = it ∧ h' = h) h
  stab : ∀ (U : List Addr), (∀ a ∈ U, a ∉ D) → ∀ i h h', KX U h h' → P i h → P i h'
  wid : ∀ a ∈ wi, a ∈ D

structure ItrT (M : Model) (it : Value) (D wi : List Addr) (n : Nat) (Mid : Nat → Value → Heap → Prop) (P : Nat → Heap → Prop) : Prop where
  next : ∀ (A : Around) (i : Nat) (h : Heap), A.handled = none → P i h → hw M A (pyNext it) (fun r h' => KX wi h h' ∧ ((r = none ∧ n ≤ i) ∨ ∃ v, r = some v ∧ i < n ∧ Mid i v h')) h
  iter : ∀ (A : Around) (i : Nat) (h : Heap), P i h → hw M A (pyIter it) (fun r h' => r = it ∧ h' = h) h
  stab : ∀ (U : List Addr), (∀ a ∈ U, a ∉ D) → ∀ i h h', KX U h h' → P i h → P i h'
  wid : ∀ a ∈ wi, a ∈ D
theorem Itr.toT {M : Model} {it : Value} {D wi : List Addr} {n : Nat} {V : Nat → Value → Heap → Prop} {P : Nat → Heap → Prop} (T : Itr M it D wi n V P) : ItrT M it D wi n (fun i v h => V i v h ∧ P (i + 1) h) P where
  next := fun A i h hA p => hw_mono (T.next A i h hA p) fun r h' ⟨k, z⟩ => ⟨k, z⟩
  iter := T.iter
  stab := T.stab
  wid := T.wid

theorem codeAny_compLoop_go {prog : Program} {w : World} {A : Around} {R : Result → Shared → Prop} {s : Shared} {elt target iter : Expr} {ifs : List Expr} {scope : Scope} {pos : Pos} {it acc : Value} {env : Env} (I : Nat → Shared → Prop)
    (turn : ∀ n s, I n s → wpAny (model prog w) A (pyNext it) (fun r s₁ => match r with
      | none => R (.ok .next) s₁
      | some v => wpAny (model prog w) A (letOwnedTupleGo target it v >>= fun _ => assign target env v) (fun _ s₂ =>
          wpAny (model prog w) A (forIn ifs true fun c r => if r = true then do let ok ← isTrue c env (eval c env); pure (ForInStep.yield ok) else pure (ForInStep.yield r)) (fun ok s₃ =>
            if ok = true then wpAny (model prog w) A (eval elt env) (fun x s₄ =>
              wpAny (model prog w) A (call (.builtin "list.append") [acc, x]) (fun _ s₅ => ∃ m, m < n ∧ I m s₅) (notedBy (model prog w) A env fun e s' => R (.error e) s') s₄) (notedBy (model prog w) A env fun e s' => R (.error e) s') s₃
            else ∃ m, m < n ∧ I m s₃) (notedBy (model prog w) A env fun e s' => R (.error e) s') s₂) (notedBy (model prog w) A env fun e s' => R (.error e) s') s₁) (notedBy (model prog w) A env fun e s' => R (.error e) s') s)
    (n : Nat) (h : I n s) : codeAny (model prog w) A (.compLoop (.ListComp elt [⟨target, iter, ifs, 0⟩] scope pos) 0 it acc env) R s := by
  refine codeAny_loop rfl I (fun n s hI => ?_) n h
  show wpAny _ A ((compTurn (.ListComp elt [⟨target, iter, ifs, 0⟩] scope pos) 0 it acc env).onRaise (fun x => do noteFrame x env; theTreesLotGoes x)) _ _ s
  refine wpAny_noted ?_
  rw [compTurn_list]
  refine wpAny_bind (wpAny_standAt (wpAny_bind (wpAny_mono (turn n s hI) (fun r s₁ h₁ => ?_) fun _ _ h' => h')))
  cases r with
  | none => exact wpAny_pure h₁
  | some v =>
    have e : ∀ {β : Type} (k : Unit → Sem β), (letOwnedTupleGo target it v >>= fun _ => assign target env v >>= k) = ((letOwnedTupleGo target it v >>= fun _ => assign target env v) >>= k) := fun k => (bind_assoc ..).symm
    show wpAny _ A (letOwnedTupleGo target it v >>= fun _ => assign target env v >>= _) _ _ s₁
    rw [e]
    refine wpAny_bind (wpAny_mono h₁ (fun _ s₂ h₂ => wpAny_bind (wpAny_mono h₂ (fun ok s₃ h₃ => ?_) fun _ _ h' => h')) fun _ _ h' => h')
    cases ok with
    | false => exact wpAny_pure ⟨rfl, h₃⟩
    | true =>
      exact wpAny_bind (wpAny_bind (wpAny_mono h₃ (fun x s₄ h₄ => wpAny_bind (wpAny_mono h₄ (fun _ s₅ h₅ => wpAny_pure (wpAny_pure ⟨rfl, h₅⟩)) fun _ _ h' => h')) fun _ _ h' => h'))

section
variable {prog : Program} {w : World} {A : Around} {h : Heap}
theorem hw_ext {α : Type} {M : Model} {t : Sem α} {Q : α → Heap → Prop} (x : hw M A t (fun a h' => h.objs.size ≤ h'.objs.size → Q a h') h) : hw M A t Q h :=
  hw_mono (hw_grow x) fun _ _ y => y.2 y.1
theorem itr_list {it l : Addr} {items : Array Value} (hne : it ≠ l) :
    Itr (model prog w) (.ref it) [it, l] [it] items.size (fun i v _ => items[i]? = some v) (fun i h => h.IsListIter it l i ∧ h.IsList l items) where
  next := fun A i h hh p => by
    cases hx : items[i]? with
    | none =>
      refine hw_ext fun s e => ?_
      subst e
      refine wpAny_pyNext_list_end hh p.1 p.2 hx fun h' k => ⟨⟨rfl, rfl, rfl⟩, fun sz => ⟨⟨sz, fun b o hb e => k b o (fun z => hb (z ▸ .head _)) e⟩, .inl ⟨rfl, ?_⟩⟩⟩
      exact Array.getElem?_eq_none_iff.mp hx
    | some v =>
      intro s e
      subst e
      refine wpAny_pyNext_list_item p.1 p.2 hx fun h' a b => ⟨⟨rfl, rfl, rfl⟩, KX.same b (.head _), .inr ⟨v, rfl, ?_, rfl, a, p.2.extBut b.extBut (Ne.symm hne)⟩⟩
      exact (Array.getElem?_eq_some_iff.mp hx).1
  iter := fun A i h p s e => by subst e; exact wpAny_pyIter_listiter p.1 ⟨Sm.refl s, rfl, rfl⟩
  stab := fun U hu i h h' k p => ⟨listiter_keep p.1 k fun hm => hu _ hm (.head _), list_keep p.2 k fun hm => hu _ hm (.tail _ (.head _))⟩
  wid := fun a ha => by cases List.mem_singleton.mp ha; exact .head _
theorem hw_iter_list {l : Addr} {items : Array Value} {Q : Value → Heap → Prop} (hl : h.IsList l items)
    (q : ∀ it h', KX [] h h' → h.objs.size ≤ it → it ≠ l → it < h'.objs.size → h'.IsListIter it l 0 → h'.IsList l items → Q (.ref it) h') : hw (model prog w) A (pyIter (.ref l)) Q h := by
  intro s e
  subst e
  refine wpAny_pyIter_list hl ⟨⟨rfl, rfl, rfl⟩, q _ _ (KX.push _ _ _) (Nat.le_refl _) (Nat.ne_of_gt (list_lt hl)) (by rw [Heap.size_push]; lia) ⟨_, Heap.get?_push_size _ rfl, rfl, rfl⟩ (hl.push _)⟩
theorem hw_newList {vs : List Value} {Q : Value → Heap → Prop} (hsz : vs.length ≤ sizeLine) (q : ∀ a h', KX [] h h' → h.objs.size ≤ a → a < h'.objs.size → h'.IsList a vs.toArray → Q (.ref a) h') : hw (model prog w) A (newList vs) Q h := by
  intro s e
  subst e
  exact wpAny_newObj_type ⟨⟨rfl, rfl, rfl⟩, q _ _ (KX.push _ _ _) (Nat.le_refl _) (by rw [Heap.size_push]; lia) ⟨_, Heap.get?_push_size _ rfl, rfl, 0, rfl⟩⟩ (by show vs.toArray.size ≤ sizeLine; rw [List.size_toArray]; exact hsz)
theorem hw_append {l : Addr} {items : Array Value} {x : Value} {Q : Value → Heap → Prop} (hl : h.IsList l items) (hsz : items.size ≤ sizeLine) (q : ∀ h', Heap.SameBut l h h' → h'.IsList l (items.push x) → Q .none h') :
    hw (model prog w) A (call (.builtin "list.append") [.ref l, x]) Q h := by
  intro s e
  subst e
  exact wpAny_list_append hl (fun h' a b => ⟨⟨rfl, rfl, rfl⟩, q h' b a⟩) hsz
end

/-! ## List comprehensions -/
noncomputable def kOk (env : Env) (scope : Scope) (cl : List (Str × Addr)) (y : Str) : Bool :=
  (env.kindOf y == some .cell || env.kindOf y == some .free) && ((relabel scope env).names.lookup y == some .cell || (relabel scope env).names.lookup y == some .free) && (cl.lookup y).isSome
noncomputable def useC (M : Model) (A : Around) (use : Option (Value → Sem Unit)) (Q : Value → Heap → Prop) (acc : Value) (C : Addr) (h : Heap) : Prop :=
  match use with
  | none => ∀ h', Heap.SameBut C h h' → Q acc h'
  | some u => hw M A (u acc) (fun _ h'' => (∃ m, h''.Ns C m) ∧ ∀ h', Heap.SameBut C h'' h' → Q .none h') h
noncomputable def tests (M : Model) (A : Around) (env : Env) (ifs : List Expr) (Q : Bool → Heap → Prop) (h : Heap) : Prop :=
  match ifs with
  | [] => Q true h
  | [c] => hw M A (isTrue c env (eval c env)) Q h
  | _ => False

theorem tests_mono {M : Model} {A : Around} {env : Env} {ifs : List Expr} {K K' : Bool → Heap → Prop} {h : Heap} (t : tests M A env ifs K h) (key : ∀ ok h', K ok h' → K' ok h') : tests M A env ifs K' h := by
  match ifs, t with
  | [], t => exact key true h t
  | [c], t => exact hw_mono (A := A) (by exact t) key
  | _ :: _ :: _, t => exact t.elim
section
variable {prog : Program} {w : World} {A : Around} {mg mb : Str → Option Value} {X : List Addr} {B : Heap} {W : List Addr} {env : Env} {l lc : List (Str × Value)} {I : Heap → Prop} {h₁ h₂ : Heap}
theorem comp_env {scope : Scope} {cl : List (Str × Addr)} {C : Addr} {wt : List Addr} {h : Heap} {lb : List (Str × Value)} (S : St mg mb X B W env l I h₁)
    (hkind : scope.kind = .function) (hcl : ∀ p ∈ cl, env.cells.lookup p.1 = some p.2) (hlc : ∀ p ∈ lc, p ∈ l ∧ kOk env scope cl p.1 = true) {U : List Addr} (k : KX U h₁ h) (hC : h₁.objs.size ≤ C)
    (hU : ∀ a ∈ U, h₁.objs.size ≤ a ∨ (a ∈ W ∧ ∀ y c, env.cells.lookup y = some c → c ≠ a)) (hwt : ∀ a ∈ wt, a ∈ U ∧ a < h₁.objs.size) (m : Str → Option Value) (hn : h.Ns C m) (hm : ∀ p ∈ lb, scope.names.lookup p.1 = some .local ∧ m p.1 = some p.2) :
    St mg mb wt h wt (compEnvC scope cl C env) (lb ++ lc) I h := by
  have hcell : ∀ y c, cl.lookup y = some c → env.cells.lookup y = some c := fun y c e => hcl (y, c) (mem_of_lookup e)
  have old : ∀ y c, env.cells.lookup y = some c → c < h₁.objs.size := fun y c e => let ⟨_, hv⟩ := S.fm.cel y c e; hv.lt
  have nU : ∀ y c, env.cells.lookup y = some c → c ∉ U := fun y c e hm => (hU c hm).elim (fun q => Nat.lt_irrefl _ (Nat.lt_of_lt_of_le (old y c e) q)) fun q => q.2 y c e rfl
  have hHi : Hi U := fun a ha => (hU a ha).elim (fun q => .inl (Nat.le_trans S.g.sz q)) fun q => S.hi a q.1
  obtain ⟨D, d1, d2, d3⟩ := S.dep
  have dU : ∀ a ∈ U, a ∉ D := fun a ha hm => (hU a ha).elim (fun q => Nat.lt_irrefl _ (Nat.lt_of_lt_of_le (d2 a hm) q)) fun q => d3 a q.1 hm
  exact
  { g := S.g.keep k hHi
    base := KX.refl _ _
    fm := ⟨⟨m, hn⟩, fun y c e => let ⟨u, hu⟩ := S.fm.cel y c (hcell y c e); ⟨u, cell_keep hu k (nU y c (hcell y c e))⟩, fun p hp => by
      rcases List.mem_append.mp hp with hp | hp
      · exact .inl ⟨lookup_relabel_local (hm p hp).1, m, hn, (hm p hp).2⟩
      · obtain ⟨a, b⟩ := hlc p hp
        unfold kOk at b
        rw [Bool.and_eq_true, Bool.and_eq_true, Bool.or_eq_true, Bool.or_eq_true] at b
        obtain ⟨⟨b1, b2⟩, b3⟩ := b
        obtain ⟨c, hc⟩ := Option.isSome_iff_exists.mp b3
        refine .inr ⟨b2.imp (fun q => (beq_iff_eq.mp q : _)) fun q => (beq_iff_eq.mp q : _), c, hc, ?_⟩
        have e := hcell _ c hc
        rcases S.fm.var p a with ⟨q, _⟩ | ⟨_, c', e', hv⟩
        · rw [q] at b1; rcases b1 with b1 | b1 <;> cases b1
        · rw [e] at e'; cases e'
          exact cell_keep hv k (nU _ c e)⟩
    imm := d1 U dU _ _ k S.imm
    es := ⟨hkind, fun y c e z => by subst z; exact Nat.lt_irrefl _ (Nat.lt_of_lt_of_le (old y _ (hcell y _ e)) hC), fun y y' c e e' => S.es.inj y y' c (hcell y c e) (hcell y' c e')⟩
    gl := S.gl, bl := S.bl
    hi := fun a ha => hHi a (hwt a ha).1
    wb := fun a ha => .inr ha
    wlt := fun a ha => Nat.lt_of_lt_of_le (hwt a ha).2 k.sz
    dep := ⟨D, d1, fun a ha => Nat.lt_of_lt_of_le (d2 a ha) k.sz, fun a ha => dU a (hwt a ha).1⟩ }

theorem hs_comp {elt iter target : Expr} {pos : Pos} {ifs : List Expr} {scope : Scope} {cl : List (Str × Addr)} {use : Option (Value → Sem Unit)} {Q : Value → Heap → Prop} {it : Value} {D wi wt : List Addr} {n : Nat} {Mid : Nat → Value → Heap → Prop} {P : Nat → Heap → Prop} {V : Nat → List (Str × Value) → Heap → Prop}
    (lc : List (Str × Value)) (J : List Addr → Nat → List Value → Heap → Prop)
    (hA : A.handled = none) (S : St mg mb X B W env l I h₁) (hclos : closureFor scope env = pure cl)
    (hkind : scope.kind = .function) (hcell : (scope.names.all fun y => y.2 != .cell) = true) (hnames : (scope.names.all fun y => y.2 != .local || scope.names.lookup y.1 == some .local) = true)
    (hcl : ∀ p ∈ cl, env.cells.lookup p.1 = some p.2) (hlc : ∀ p ∈ lc, p ∈ l ∧ kOk env scope cl p.1 = true)
    (T : ItrT (model prog w) it D wi n Mid P) (p0 : P 0 h₂) (k12 : KX [] h₁ h₂) (hD : ∀ a ∈ D, a < h₂.objs.size) (hn : n ≤ sizeLine)
    (hwi : ∀ a ∈ wi, h₁.objs.size ≤ a ∨ (a ∈ W ∧ ∀ y c, env.cells.lookup y = some c → c ≠ a)) (hwt : ∀ a ∈ wt, a < h₁.objs.size ∧ a ∉ D ∧ a ∈ W ∧ ∀ y c, env.cells.lookup y = some c → c ≠ a)
    (asg : ∀ C i v h m, h₂.objs.size ≤ C → i < n → h.Ns C m → Mid i v h → hw (model prog w) A (letOwnedTupleGo target it v >>= fun _ => assign target (compEnvC scope cl C env) v) (fun _ h' => KX (C :: wi) h h' ∧ P (i + 1) h' ∧ ∃ lb m', h'.Ns C m' ∧ (∀ p ∈ lb, scope.names.lookup p.1 = some .local ∧ m' p.1 = some p.2) ∧ V i lb h') h)
    (j0 : ∀ U h, KX (wi ++ wt) h₂ h → (∀ a ∈ U, h₂.objs.size ≤ a ∨ a ∈ wi) → J U 0 [] h)
    (jst : ∀ U i ys h h', KX U h h' → J U i ys h → J U i ys h')
    (turn : ∀ C acc i lb ys h, KX (wi ++ wt) h₂ h → h₂.objs.size ≤ C → h₂.objs.size ≤ acc → C < h.objs.size → acc < h.objs.size → (∀ a ∈ wi, a < h.objs.size) → i < n → V i lb h → J (C :: acc :: wi) i ys h →
      St mg mb wt h wt (compEnvC scope cl C env) (lb ++ lc) I h →
      tests (model prog w) A (compEnvC scope cl C env) ifs (fun ok h' => if ok then hw (model prog w) A (eval elt (compEnvC scope cl C env)) (fun y h'' => KX wt h h'' ∧ J (C :: acc :: wi) (i + 1) (ys ++ [y]) h'') h' else KX wt h h' ∧ J (C :: acc :: wi) (i + 1) ys h') h)
    (fin : ∀ C acc ys h, KX (wi ++ wt) h₂ h → h₂.objs.size ≤ C → h₂.objs.size ≤ acc → C ≠ acc → h.IsList acc ys.toArray → (∃ m, h.Ns C m) → ys.length ≤ n → J (C :: acc :: wi) n ys h → useC (model prog w) A use Q (.ref acc) C h) :
    hw (model prog w) A (newList []) (fun acc h₃ => hw (model prog w) A (newFunctionEnv scope env.globals cl [] env.qual none .none (some env)) (fun cenv h₄ =>
      hc (model prog w) A (.compStart (.ListComp elt [⟨target, iter, ifs, 0⟩] scope pos) 0 it acc { cenv with scope := relabel scope env }) (fun _ h => (∃ m, h.Ns cenv.locals m) ∧ useC (model prog w) A use Q acc cenv.locals h) h₄) h₃) h₂ := by
  refine hw_newList (Nat.zero_le _) fun acc h₃ k3 ha ha' hl => ?_
  intro s e
  subst e
  refine wpAny_newFunctionEnv (fun y hy => by simpa using List.all_eq_true.mp hcell y hy) (fun y hy => nomatch hy) (fun h₄ hns hsb => ?_) hkind
  refine ⟨⟨rfl, rfl, rfl⟩, ?_⟩
  show hc _ _ (.compStart _ 0 it (.ref acc) (compEnvC scope cl s.heap.objs.size env)) (fun _ h => (∃ m, h.Ns s.heap.objs.size m) ∧ useC (model prog w) A use Q (.ref acc) s.heap.objs.size h) h₄
  have hC2 : h₂.objs.size ≤ s.heap.objs.size := k3.sz
  generalize hCe : s.heap.objs.size = C at hns hsb hC2 ⊢
  have hCacc : acc ≠ C := fun z => by rw [← hCe] at z; exact Nat.lt_irrefl _ (z ▸ ha')
  have k34 : KX [] s.heap h₄ := KX.of_all (by rw [hsb.1, Heap.size_push]; lia) fun b o e => hsb.extBut b o (by rw [← hCe]; exact Nat.ne_of_lt (Heap.lt_size e)) (Heap.get?_push_of_some _ e)
  have k24 : KX [] h₂ h₄ := k3.trans k34
  let U := C :: acc :: wi
  let env' := compEnvC scope cl C env
  let LI : Nat → Heap → Prop := fun m h => ∃ i ys, m = n - i ∧ i ≤ n ∧ ys.length ≤ i ∧ KX (C :: acc :: (wi ++ wt)) h₂ h ∧ h₄.objs.size ≤ h.objs.size ∧ P i h ∧ h.IsList acc ys.toArray ∧ (∃ m', h.Ns C m') ∧ J U i ys h
  have fresh : ∀ a ∈ D, a ≠ C ∧ a ≠ acc := fun a hd => ⟨fun z => Nat.lt_irrefl _ (Nat.lt_of_lt_of_le (hD a hd) (z ▸ hC2)), fun z => Nat.lt_irrefl _ (Nat.lt_of_lt_of_le (hD a hd) (z ▸ ha))⟩
  have k2 : ∀ {h}, KX (C :: acc :: (wi ++ wt)) h₂ h → KX (wi ++ wt) h₂ h := fun k => ⟨k.sz, fun b o hb e => k.keep b o (fun hm => by
    rcases List.mem_cons.mp hm with z | hm
    · exact Nat.lt_irrefl _ (Nat.lt_of_lt_of_le (Heap.lt_size e) (z ▸ hC2))
    rcases List.mem_cons.mp hm with z | hm
    · exact Nat.lt_irrefl _ (Nat.lt_of_lt_of_le (Heap.lt_size e) (z ▸ ha))
    · exact hb hm) e⟩
  have wtlt : ∀ a ∈ wt, a ≠ C ∧ a ≠ acc ∧ a ∉ wi := fun a ht => ⟨fun z => Nat.lt_irrefl _ (Nat.lt_of_lt_of_le (hwt a ht).1 (Nat.le_trans k12.sz (z ▸ hC2))), fun z => Nat.lt_irrefl _ (Nat.lt_of_lt_of_le (hwt a ht).1 (Nat.le_trans k12.sz (z ▸ ha))), fun hm => (hwt a ht).2.1 (T.wid a hm)⟩
  have loop : ∀ m h, LI m h → hc (model prog w) A (.compLoop (.ListComp elt [⟨target, iter, ifs, 0⟩] scope pos) 0 it (.ref acc) env') (fun _ h' => (∃ m, h'.Ns C m) ∧ useC (model prog w) A use Q (.ref acc) C h') h := by
    intro m h hI s0 e0
    refine codeAny_compLoop_go (fun m s' => Sm s0 s' ∧ LI m s'.heap) (fun m s' hx => ?_) m ⟨Sm.refl s0, e0 ▸ hI⟩
    obtain ⟨sm, i, ys, hm, hin, hyl, k, hsz, p, hl, ⟨m', hns⟩, j⟩ := hx
    refine wpAny_mono (T.next A i s'.heap hA p s' rfl) (fun r s₁ hy => ?_) fun _ _ f => f.elim
    obtain ⟨sm1, kn, q⟩ := hy
    rcases q with ⟨rfl, hni⟩ | ⟨v, rfl, hi, hmid⟩
    · have hieq : i = n := by lia
      subst hieq
      have kk : KX (C :: acc :: (wi ++ wt)) h₂ s₁.heap := k.trans (kn.mono fun a hm => .tail _ (.tail _ (List.mem_append_left _ hm)))
      have hnC : C ∉ wi := fun hm => (fresh C (T.wid C hm)).1 rfl
      have hnA : acc ∉ wi := fun hm => (fresh acc (T.wid acc hm)).2 rfl
      have n1 : s₁.heap.Ns C m' := ns_keep hns kn hnC
      exact ⟨sm.trans sm1, ⟨m', n1⟩, fin C acc ys s₁.heap (k2 kk) hC2 ha (Ne.symm hCacc) (list_keep hl kn hnA) ⟨m', n1⟩ hyl (jst U i ys _ _ (kn.mono fun a hm => .tail _ (.tail _ hm)) j)⟩
    · have hnC : C ∉ wi := fun hm => (fresh C (T.wid C hm)).1 rfl
      have hnA : acc ∉ wi := fun hm => (fresh acc (T.wid acc hm)).2 rfl
      refine wpAny_mono (asg C i v s₁.heap m' hC2 hi (ns_keep hns kn hnC) hmid s₁ rfl) (fun _ s2 z2 => ?_) fun _ _ f => f.elim
      obtain ⟨sm2, k5, p5, lb, m5, hn5, hb5, hv5⟩ := z2
      generalize hh5 : s2.heap = h5 at k5 p5 hn5 hv5
      have kk : KX (C :: acc :: (wi ++ wt)) h₂ h5 := (k.trans (kn.mono fun a hm => .tail _ (.tail _ (List.mem_append_left _ hm)))).trans (k5.mono fun a hm => by
        rcases List.mem_cons.mp hm with rfl | hm
        · exact .head _
        · exact .tail _ (.tail _ (List.mem_append_left _ hm)))
      have sz5 : h₄.objs.size ≤ h5.objs.size := Nat.le_trans hsz (Nat.le_trans kn.sz k5.sz)
      have hl5 : h5.IsList acc ys.toArray := list_keep (list_keep hl kn hnA) k5 fun hm => by
        rcases List.mem_cons.mp hm with e | hm
        · exact hCacc e
        · exact hnA hm
      have j5 : J U i ys h5 := jst U i ys _ _ (k5.mono fun a hm => by
        rcases List.mem_cons.mp hm with rfl | hm
        · exact .head _
        · exact .tail _ (.tail _ hm)) (jst U i ys _ _ (kn.mono fun a hm => .tail _ (.tail _ hm)) j)
      have C5 : C < h5.objs.size := hn5.lt
      have A5 : acc < h5.objs.size := list_lt hl5
      have St5 : St mg mb wt h5 wt env' (lb ++ lc) I h5 := by
        refine comp_env S hkind hcl hlc (U := wi ++ wt) (k12.any.trans (k2 kk)) (Nat.le_trans k12.sz hC2) (fun a hm => ?_) (fun a ht => ⟨List.mem_append_right _ ht, (hwt a ht).1⟩) _ hn5 hb5
        rcases List.mem_append.mp hm with hm | hm
        · exact hwi a hm
        · exact .inr ⟨(hwt a hm).2.2.1, (hwt a hm).2.2.2⟩
      have y := turn C acc i lb ys h5 (k2 kk) hC2 ha C5 A5 (fun a hm => Nat.lt_of_lt_of_le (hD a (T.wid a hm)) kk.sz) hi hv5 j5 St5
      have again : ∀ y' h6, KX wt h5 h6 → J U (i + 1) y' h6 → y'.length ≤ i + 1 → ∀ h7, h7.IsList acc y'.toArray → KX [acc] h6 h7 → LI (n - (i + 1)) h7 := by
        intro y' h6 k6 j6 yl h7 l7 k7
        refine ⟨i + 1, y', rfl, hi, yl, (kk.trans (k6.mono fun a hm => .tail _ (.tail _ (List.mem_append_right _ hm)))).trans (k7.mono fun a hm => by cases List.mem_singleton.mp hm; exact .tail _ (.head _)), Nat.le_trans sz5 (Nat.le_trans k6.sz k7.sz), ?_, l7, ?_, jst _ _ _ _ _ (k7.mono fun a hm => by cases List.mem_singleton.mp hm; exact .tail _ (.head _)) j6⟩
        · exact T.stab [acc] (fun a hm => by cases List.mem_singleton.mp hm; exact fun hd => (fresh acc hd).2 rfl) _ _ _ k7 (T.stab wt (fun a ht => (hwt a ht).2.1) _ _ _ k6 p5)
        · exact ⟨_, ns_keep (ns_keep hn5 k6 fun hm => (wtlt C hm).1 rfl) k7 fun hm => hCacc (List.mem_singleton.mp hm).symm⟩
      have elt' : ∀ h5', KX wt h5 h5' → hw (model prog w) A (eval elt env') (fun y h'' => KX wt h5 h'' ∧ J U (i + 1) (ys ++ [y]) h'') h5' → hw (model prog w) A (eval elt env') (fun y h'' => hw (model prog w) A (call (.builtin "list.append") [.ref acc, y]) (fun _ h7 => ∃ m'', m'' < m ∧ LI m'' h7) h'') h5' := by
        intro h5' kt z
        refine hw_mono z fun y h6 ⟨k6, j6⟩ => ?_
        have l6 : h6.IsList acc ys.toArray := list_keep hl5 k6 fun hm => (wtlt acc hm).2.1 rfl
        refine hw_append l6 (by rw [List.size_toArray]; lia) fun h7 s7 l7 => ⟨n - (i + 1), by lia, again (ys ++ [y]) h6 k6 j6 (by rw [List.length_append]; show ys.length + 1 ≤ _; lia) h7 (by simpa using l7) (KX.same s7 (.head _))⟩
      have lift : ∀ (s5 : Shared), Sm s0 s5 → ∀ h5', s5.heap = h5' → KX wt h5 h5' → hw (model prog w) A (eval elt env') (fun y h'' => KX wt h5 h'' ∧ J U (i + 1) (ys ++ [y]) h'') h5' →
          wpAny (model prog w) A (eval elt env') (fun x s₄ => wpAny (model prog w) A (call (.builtin "list.append") [.ref acc, x]) (fun _ s₅ => ∃ m'', m'' < m ∧ Sm s0 s₅ ∧ LI m'' s₅.heap) (notedBy (model prog w) A env' fun _ _ => False) s₄) (notedBy (model prog w) A env' fun _ _ => False) s5 := by
        intro s5 sm5 h5' e5 kt z
        refine wpAny_mono (nest (elt' h5' kt z) s5 e5) (fun x s₄ q => wpAny_mono q (fun _ s₅ ⟨a, m'', b, c⟩ => ⟨m'', b, sm5.trans a, c⟩) fun _ _ f => f.elim) fun _ _ f => f.elim
      have sm5 : Sm s0 s2 := (sm.trans sm1).trans sm2
      match ifs, y with
      | [], y => exact wpAny_tests_nil (by rw [if_pos rfl]; exact lift _ sm5 h5 hh5 (KX.refl _ _) (by simpa [tests] using y))
      | [c], y =>
        refine wpAny_tests_one (wpAny_mono (y s2 hh5) (fun ok s6 ⟨sm6, y6⟩ => ?_) fun _ _ f => f.elim)
        cases ok with
        | true =>
          rw [if_pos rfl]
          have y6' : hw (model prog w) A (eval elt env') (fun y h'' => KX wt h5 h'' ∧ J U (i + 1) (ys ++ [y]) h'') s6.heap := by simpa using y6
          refine wpAny_mono (y6' s6 rfl) (fun x s₄ ⟨a, k6, j6⟩ => ?_) fun _ _ f => f.elim
          have l6 : s₄.heap.IsList acc ys.toArray := list_keep hl5 k6 fun hm => (wtlt acc hm).2.1 rfl
          have := hw_append (prog := prog) (w := w) (A := A) (x := x) (Q := fun _ h7 => ∃ m'', m'' < m ∧ LI m'' h7) l6 (by rw [List.size_toArray]; lia) fun h7 s7 l7 => ⟨n - (i + 1), by lia, again (ys ++ [x]) s₄.heap k6 j6 (by rw [List.length_append]; show ys.length + 1 ≤ _; lia) h7 (by simpa using l7) (KX.same s7 (.head _))⟩
          exact wpAny_mono (this s₄ rfl) (fun _ s₅ ⟨b, m'', c, d⟩ => ⟨m'', c, ((sm5.trans sm6).trans a).trans b, d⟩) fun _ _ f => f.elim
        | false =>
          have y6' : KX wt h5 s6.heap ∧ J U (i + 1) ys s6.heap := by simpa using y6
          simp only [Bool.false_eq_true, if_false]
          exact ⟨n - (i + 1), by lia, sm5.trans sm6, again ys s6.heap y6'.1 y6'.2 (by lia) s6.heap (list_keep hl5 y6'.1 fun hm => (wtlt acc hm).2.1 rfl) (KX.refl _ _)⟩
      | _ :: _ :: _, y => exact y.elim
  have start : LI (n - 0) h₄ := ⟨0, [], rfl, Nat.zero_le _, Nat.le_refl _, k24.any, Nat.le_refl _, T.stab [] (fun _ hm => nomatch hm) _ _ _ k24 p0, list_keep hl k34 (fun hm => nomatch hm), ⟨_, hns⟩, j0 U h₄ k24.any fun a hm => by
    rcases List.mem_cons.mp hm with rfl | hm
    · exact .inl hC2
    rcases List.mem_cons.mp hm with rfl | hm
    · exact .inl ha
    · exact .inr hm⟩
  have p4 : P 0 h₄ := T.stab [] (fun _ hm => nomatch hm) _ _ _ k24 p0
  intro s4 e4
  refine codeAny_compStart_list ?_ ?_
  · refine codeAny_mono (loop _ _ start s4 e4) fun r s' z => ?_
    cases r with
    | ok f => exact z
    | error => exact z
  · refine wpAny_mono (T.iter A 0 h₄ p4 s4 e4) (fun it' s5 ⟨sm5, hit, hh⟩ => ?_) fun _ _ f => f.elim
    subst hit
    refine codeAny_mono (loop _ _ start s5 hh) fun r s' z => ?_
    cases r with
    | ok f => exact ⟨sm5.trans z.1, z.2⟩
    | error => exact z
theorem hw_comprehension {elt iter target : Expr} {pos p : Pos} {ifs : List Expr} {scope : Scope} {cl : List (Str × Addr)} {use : Option (Value → Sem Unit)} {Q : Value → Heap → Prop} {h : Heap}
    (hclos : closureFor scope env = pure cl) (hkind : scope.kind = .function) (hnames : (scope.names.all fun y => y.2 != .local || scope.names.lookup y.1 == some .local) = true)
    (y : hw (model prog w) A (eval iter env) (fun xv h₁ => hw (model prog w) A (pyIter xv) (fun it h₂ => hw (model prog w) A (newList []) (fun acc h₃ => hw (model prog w) A (newFunctionEnv scope env.globals cl [] env.qual none .none (some env)) (fun cenv h₄ =>
      hc (model prog w) A (.compStart (.ListComp elt [⟨target, iter, ifs, 0⟩] scope pos) 0 it acc { cenv with scope := relabel scope env }) (fun _ h => (∃ m, h.Ns cenv.locals m) ∧ useC (model prog w) A use Q acc cenv.locals h) h₄) h₃) h₂) h₁) h)
    (hs : ∀ x, foldedSetIterable iter env x = pure x) :
    hw (model prog w) A (comprehension (.ListComp elt [⟨target, iter, ifs, 0⟩] scope pos) scope env p (newList []) false (eval iter env) use) Q h := by
  intro s e
  refine wpAny_comprehension_free rfl hs hclos hkind (fun z hz hl => ?_) ?_
  · have := List.all_eq_true.mp hnames z hz
    rw [hl] at this
    simpa using this
  refine wpAny_mono (y s e) (fun xv s₁ ⟨sm1, y1⟩ => wpAny_mono (y1 s₁ rfl) (fun it s₂ ⟨sm2, y2⟩ => wpAny_mono (y2 s₂ rfl) (fun acc s₃ ⟨sm3, y3⟩ => wpAny_mono (y3 s₃ rfl) (fun cenv s₄ ⟨sm4, y4⟩ => ?_) fun _ _ f => f.elim) fun _ _ f => f.elim) fun _ _ f => f.elim) fun _ _ f => f.elim
  refine codeAny_mono (y4 s₄ rfl) fun r s' z => ?_
  cases r with
  | error => exact z.elim
  | ok f =>
    obtain ⟨sm5, ⟨m, hm⟩, u⟩ := z
    have sm := (((sm1.trans sm2).trans sm3).trans sm4).trans sm5
    cases use with
    | none => exact ⟨m, hm, fun h' hs' => ⟨sm.trans ⟨rfl, rfl, rfl⟩, u h' hs'⟩⟩
    | some v => exact wpAny_mono (u s' rfl) (fun _ s'' ⟨sm6, ⟨m', hm'⟩, q⟩ => ⟨m', hm', fun h' hs' => ⟨(sm.trans sm6).trans ⟨rfl, rfl, rfl⟩, q h' hs'⟩⟩) fun _ _ f => f.elim
theorem hw_ListComp {elt iter target : Expr} {pos : Pos} {ifs : List Expr} {scope : Scope} {cl : List (Str × Addr)} {Q : Value → Heap → Prop} {h : Heap}
    (hclos : closureFor scope env = pure cl) (hkind : scope.kind = .function) (hnames : (scope.names.all fun y => y.2 != .local || scope.names.lookup y.1 == some .local) = true)
    (y : hw (model prog w) A (eval iter env) (fun xv h₁ => hw (model prog w) A (pyIter xv) (fun it h₂ => hw (model prog w) A (newList []) (fun acc h₃ => hw (model prog w) A (newFunctionEnv scope env.globals cl [] env.qual none .none (some env)) (fun cenv h₄ =>
      hc (model prog w) A (.compStart (.ListComp elt [⟨target, iter, ifs, 0⟩] scope pos) 0 it acc { cenv with scope := relabel scope env }) (fun _ h => (∃ m, h.Ns cenv.locals m) ∧ useC (model prog w) A none Q acc cenv.locals h) h₄) h₃) h₂) h₁) h)
    (hs : ∀ x, foldedSetIterable iter env x = pure x) : hw (model prog w) A (eval (.ListComp elt [⟨target, iter, ifs, 0⟩] scope pos) env) Q h := by
  rw [eval_ListComp]
  exact hw_comprehension hclos hkind hnames y hs
theorem hw_Assign_ListComp {elt iter target : Expr} {z : Str} {pz pos spos : Pos} {ifs : List Expr} {scope : Scope} {cl : List (Str × Addr)} {Q : Flow → Heap → Prop} {h : Heap}
    (hsw : swapsWith (.ListComp elt [⟨target, iter, ifs, 0⟩] scope pos) (some (.Name z pz)) spos.line env = pure true)
    (hclos : closureFor scope env = pure cl) (hkind : scope.kind = .function) (hnames : (scope.names.all fun y => y.2 != .local || scope.names.lookup y.1 == some .local) = true)
    (y : hw (model prog w) A (eval iter env) (fun xv h₁ => hw (model prog w) A (pyIter xv) (fun it h₂ => hw (model prog w) A (newList []) (fun acc h₃ => hw (model prog w) A (newFunctionEnv scope env.globals cl [] env.qual none .none (some env)) (fun cenv h₄ =>
      hc (model prog w) A (.compStart (.ListComp elt [⟨target, iter, ifs, 0⟩] scope pos) 0 it acc { cenv with scope := relabel scope env }) (fun _ h => (∃ m, h.Ns cenv.locals m) ∧ useC (model prog w) A (some (assign (.Name z pz) env)) (fun _ => Q .next) acc cenv.locals h) h₄) h₃) h₂) h₁) h)
    (hs : ∀ x, foldedSetIterable iter env x = pure x) : hw (model prog w) A (exec (.Assign [.Name z pz] (.ListComp elt [⟨target, iter, ifs, 0⟩] scope pos) spos) env) Q h := by
  rw [exec_Assign_Name_used _ _ _ _ hsw]
  refine hw_bind (hw_standAt (hw_bind ?_))
  show hw _ A (do let _ ← comprehension (.ListComp elt [⟨target, iter, ifs, 0⟩] scope pos) scope env _ (newList []) false (eval iter env) (some (assign (.Name z pz) env))) _ h
  exact hw_bind (hw_mono (hw_comprehension hclos hkind hnames y hs) fun _ _ q => hw_pure (hw_pure q))
end
end

-- B6
section
open PySem PySem.W PyProof.Rows

/-! ## Loops -/
section
variable {prog : Program} {w : World} {A : Around} {h : Heap} {env : Env}
theorem hw_While {test : Expr} {body orelse : List Stmt} {pos : Pos} {Q : Flow → Heap → Prop} (I : Nat → Heap → Prop)
    (turn : ∀ n h, I n h → hw (model prog w) A (isTrue test env (eval test env)) (rqWhile (model prog w) A env body orelse Q I n) h)
    (n : Nat) (i : I n h) : hw (model prog w) A (exec (.While test body orelse pos) env) Q h := by
  intro s e
  refine wpAny_While (codeAny_whileLoop (fun n s' => Sm s s' ∧ I n s'.heap) (fun n s' ⟨sm, i⟩ => ?_) n ⟨Sm.refl s, e ▸ i⟩)
  refine wpAny_mono (turn n s'.heap i s' rfl) (fun b s₂ ⟨sm2, y⟩ => ?_) fun _ _ f => f.elim
  cases b with
  | false =>
    simp only [Bool.false_eq_true, if_false] at y ⊢
    exact wpAny_mono (y s₂ rfl) (fun f s₃ ⟨sm3, z⟩ => ⟨(sm.trans sm2).trans sm3, z⟩) fun _ _ f => f.elim
  | true =>
    simp only [if_true] at y ⊢
    refine wpAny_mono (y s₂ rfl) (fun f s₃ ⟨sm3, z⟩ => ?_) fun _ _ f => f.elim
    have q := (sm.trans sm2).trans sm3
    cases f with
    | next => obtain ⟨m, a, b⟩ := z; exact ⟨m, a, q, b⟩
    | cont => obtain ⟨m, a, b⟩ := z; exact ⟨m, a, q, b⟩
    | brk => exact ⟨q, z⟩
    | ret v => exact ⟨q, z⟩
/-- a for over what an iterator gives, its target a name -/
theorem hc_For {x : Str} {px : Pos} {body orelse : List Stmt} {Q : Flow → Heap → Prop} {it : Value} {D wi : List Addr} {n : Nat} {V : Nat → Value → Heap → Prop} {P : Nat → Heap → Prop}
    (J : Nat → Heap → Prop) (hA : A.handled = none) (T : Itr (model prog w) it D wi n V P)
    (jst : ∀ i h h', i ≤ n → KX wi h h' → J i h → J i h')
    (turn : ∀ i v h, i < n → V i v h → J i h → P (i + 1) h → hw (model prog w) A (storeName env x v) (rqForS (model prog w) A env body Q J P i) h)
    (fin : ∀ h, J n h → hw (model prog w) A (execs orelse env) Q h) (i : Nat) (hi : i ≤ n) (j : J i h) (p : P i h) : hc (model prog w) A (.forLoop (.Name x px) it body orelse env) Q h := by
  intro s e
  refine codeAny_forLoop (fun m s' => Sm s s' ∧ ∃ i, m = n - i ∧ i ≤ n ∧ J i s'.heap ∧ P i s'.heap) (fun m s' ⟨sm, i, hm, hin, j, p⟩ => ?_) (n - i) ⟨Sm.refl s, i, rfl, hi, e ▸ j, e ▸ p⟩
  refine wpAny_mono (T.next A i s'.heap hA p s' rfl) (fun r s₁ ⟨sm1, k, q⟩ => ?_) fun _ _ f => f.elim
  rcases q with ⟨rfl, hni⟩ | ⟨v, rfl, hi, hv, p'⟩
  · have : i = n := by lia
    subst this
    exact wpAny_mono (fin _ (jst i _ _ (Nat.le_refl _) k j) s₁ rfl) (fun f s₂ ⟨sm2, z⟩ => ⟨(sm.trans sm1).trans sm2, z⟩) fun _ _ f => f.elim
  · refine wpAny_assign_Name (wpAny_mono (nest (turn i v s₁.heap hi hv (jst i _ _ hin k j) p') s₁ rfl) (fun _ s₂ y => wpAny_mono y (fun f s₃ ⟨sm3, z⟩ => ?_) fun _ _ f => f.elim) fun _ _ f => f.elim)
    have q := (sm.trans sm1).trans sm3
    cases f with
    | next => exact ⟨n - (i + 1), by lia, q, i + 1, rfl, hi, z.1, z.2⟩
    | cont => exact ⟨n - (i + 1), by lia, q, i + 1, rfl, hi, z.1, z.2⟩
    | brk => exact ⟨q, z⟩
    | ret v => exact ⟨q, z⟩
theorem hw_For {target iter : Expr} {body orelse : List Stmt} {pos : Pos} {Q : Flow → Heap → Prop}
    (y : hw (model prog w) A (eval iter env) (rqForI (model prog w) A env target body orelse Q) h)
    (hs : ∀ x, foldedSetIterable iter env x = pure x := by intro _; rfl) : hw (model prog w) A (exec (.For target iter body orelse pos) env) Q h := by
  intro s e
  refine wpAny_For (wpAny_mono (y s e) (fun x s₁ ⟨sm1, y1⟩ => wpAny_mono (y1 s₁ rfl) (fun it s₂ ⟨sm2, y2⟩ => codeAny_mono (y2 s₂ rfl) fun r s' z => ?_) fun _ _ f => f.elim) fun _ _ f => f.elim) hs
  cases r with
  | ok f => exact ⟨(sm1.trans sm2).trans z.1, z.2⟩
  | error => exact z.elim
end

/-! ## Displays, calls -/
section
variable {M : Model} {A : Around} {h : Heap} {env : Env}
theorem hw_spl_nil {pos : Pos} {Q : List Value → Heap → Prop} (q : Q [] h) : hw M A (spliced (backTo pos (starEach [] env))) Q h := hw_pure q
theorem hw_spl {e : Expr} {rest : List Expr} {pos : Pos} {Q : List Value → Heap → Prop} (x : hw M A (eval e env) (rqSpl M A env pos rest Q) h)
    (he : starEach (e :: rest) env = (false, eval e env) :: starEach rest env := by rfl) : hw M A (spliced (backTo pos (starEach (e :: rest) env))) Q h := by
  rw [he]
  show hw M A (spliced ((false, eval e env) :: backTo pos (starEach rest env))) Q h
  exact fun s e' => Calls.spliced_cons (wpAny_mono (x s e') (fun v s₁ y => wpAny_mono (y.2 s₁ rfl) (fun vs s₂ z => ⟨y.1.trans z.1, z.2⟩) fun _ _ f => f) fun _ _ f => f)
noncomputable def KeepOk (M : Model) (f : Value) (h : Heap) : Prop := ∃ k, (k = Keeper.frame ∨ k = Keeper.machine ∨ k = Keeper.boundFrame) ∧ Looks M h (keeperOf f) k
noncomputable abbrev rqKeep (M : Model) (A : Around) (f : Value) (first : List Value) (Q : Value → Heap → Prop) : List Value → Heap → Prop := fun vs h₁ => KeepOk M f h₁ ∧ hw M A (call f (first ++ vs)) Q h₁
noncomputable abbrev rqKeep1 (M : Model) (A : Around) (f : Value) (first : List Value) (Q : Value → Heap → Prop) : Value → Heap → Prop := fun v h₁ => KeepOk M f h₁ ∧ hw M A (call f (first ++ [v])) Q h₁
noncomputable abbrev rqKw2 (M : Model) (A : Around) (env : Env) (f : Value) (vs : List Value) (pos : Pos) (kws : List Keyword) (Q : Value → Heap → Prop) : List Value → Heap → Prop := fun ks h₂ => KeepOk M f h₂ ∧ hw M A (call f vs (((backToKw pos (keywordEach kws env)).filterMap (·.1)).zip ks)) Q h₂
noncomputable abbrev rqKw1 (M : Model) (A : Around) (env : Env) (f : Value) (first : List Value) (pos : Pos) (kws : List Keyword) (Q : Value → Heap → Prop) : List Value → Heap → Prop := fun vs h₁ => hw M A (evalAll ((backToKw pos (keywordEach kws env)).map (·.2))) (rqKw2 M A env f (first ++ vs) pos kws Q) h₁
theorem keep_builtin (id : String) : KeepOk M (.builtin id) h := ⟨.machine, .inr (.inl rfl), Looks.of_pure rfl⟩
theorem keep_type (T : String) : KeepOk M (.type T) h := ⟨.machine, .inr (.inl rfl), Looks.of_pure rfl⟩
theorem keep_fn {f : Addr} {c : Value} {d : Option Addr} {fd : FuncData} {sl : Array (Option Value)} (ho : h.get? f = some ⟨c, d, .func fd, sl⟩) : KeepOk M (.ref f) h := ⟨.frame, .inl rfl, (Looks.ld (part := none) ho).andThen .now⟩
theorem hw_callWith {f : Value} {first : List Value} {e : Expr} {rest : List Expr} {pos : Pos} {Q : Value → Heap → Prop}
    (x : hw M A (spliced (backTo pos (starEach (e :: rest) env))) (rqKeep M A f first Q) h)
    (he : starEach (e :: rest) env = (false, eval e env) :: starEach rest env := by rfl) (hp : (backTo pos (starEach rest env)).any (·.1) = false := by rfl) :
    hw M A (callWith pos f first (backTo pos (starEach (e :: rest) env)) []) Q h := by
  rw [he] at x ⊢
  intro s e'
  refine callWith_of (P := KeepOk M f) (by show ((false || (backTo pos (starEach rest env)).any (·.1)) || false) = false; rw [hp]; rfl) (fun h p => p) (Calls.evalArgs_plain ?_)
  exact wpAny_mono (x s e') (fun vs s₁ y => ⟨y.2.1, wpAny_mono (y.2.2 s₁ rfl) (fun v s₂ z => ⟨y.1.trans z.1, z.2⟩) fun _ _ f => f⟩) fun _ _ f => f
theorem hw_callWith_kw {f : Value} {first : List Value} {e : Expr} {rest : List Expr} {kws : List Keyword} {pos : Pos} {Q : Value → Heap → Prop} (hall : (backToKw pos (keywordEach kws env)).all (·.1.isSome) = true)
    (x : hw M A (spliced (backTo pos (starEach (e :: rest) env))) (rqKw1 M A env f first pos kws Q) h)
    (he : starEach (e :: rest) env = (false, eval e env) :: starEach rest env := by rfl) (hp : (backTo pos (starEach rest env)).any (·.1) = false := by rfl) :
    hw M A (callWith pos f first (backTo pos (starEach (e :: rest) env)) (backToKw pos (keywordEach kws env))) Q h := by
  rw [he] at x ⊢
  intro s e'
  refine callWith_of (P := KeepOk M f) ?_ (fun h p => p) (evalArgs_kw hall ?_)
  · show ((false || (backTo pos (starEach rest env)).any (·.1)) || _) = false
    rw [hp, Bool.false_or, Bool.false_or, List.any_eq_false]
    intro k hk hn
    have := List.all_eq_true.mp hall k hk
    rw [Option.isNone_iff_eq_none] at hn
    rw [hn] at this; cases this
  · exact wpAny_mono (x s e') (fun vs s₁ y => wpAny_mono (y.2 s₁ rfl) (fun ks s₂ z => ⟨z.2.1, wpAny_mono (z.2.2 s₂ rfl) (fun v s₃ u => ⟨(y.1.trans z.1).trans u.1, u.2⟩) fun _ _ f => f⟩) fun _ _ f => f) fun _ _ f => f
theorem hw_evalAll_nil {Q : List Value → Heap → Prop} (q : Q [] h) : hw M A (evalAll []) Q h := hw_pure q
theorem hw_evalAll {t : Sem Value} {rest : List (Sem Value)} {Q : List Value → Heap → Prop} (x : hw M A t (rqEv M A rest Q) h) : hw M A (evalAll (t :: rest)) Q h := by
  rw [evalAll]
  exact hw_bind (hw_mono x fun v h₁ y => hw_bind (hw_holding (hw_mono y fun vs h₂ z => hw_pure z)))
theorem hw_Call {id : Str} {p pos : Pos} {args : List Expr} {Q : Value → Heap → Prop} (x : hw M A (eval (.Name id p) env) (rqCall M A env pos args Q) h) :
    hw M A (eval (.Call (.Name id p) args [] pos) env) Q h := by
  rw [arm_eval_Call_Name']
  exact hw_bind x
theorem hw_Call_kw {id : Str} {p pos : Pos} {args : List Expr} {k : Keyword} {kws : List Keyword} {Q : Value → Heap → Prop} (x : hw M A (eval (.Name id p) env) (rqCallK M A env pos args (k :: kws) Q) h) :
    hw M A (eval (.Call (.Name id p) args (k :: kws) pos) env) Q h := by
  rw [arm_eval_Call_Name']
  exact hw_bind x
end
section
variable {prog : Program} {w : World} {A : Around} {h : Heap} {env : Env}
theorem hw_List {elts : List Expr} {pos : Pos} {Q : Value → Heap → Prop} (x : hw (model prog w) A (spliced (backTo pos (starEach elts env))) (rqThen (model prog w) A newList Q) h) : hw (model prog w) A (eval (.List elts pos) env) Q h := by
  rw [arm_eval_List]
  exact hw_bind (hw_standAt (hw_bind x))
theorem hw_Tuple {elts : List Expr} {k : Nat} {pos : Pos} {Q : Value → Heap → Prop} (x : hw (model prog w) A (spliced (backTo pos (starEach elts env))) (rqThen (model prog w) A newTuple Q) h) : hw (model prog w) A (eval (.Tuple elts k pos) env) Q h := by
  rw [arm_eval_Tuple]
  exact hw_bind (hw_standAt (hw_bind x))
theorem hw_newTuple {vs : List Value} {Q : Value → Heap → Prop} (hsz : vs.length ≤ sizeLine) (q : ∀ a h', KX [] h h' → h.objs.size ≤ a → a < h'.objs.size → h'.get? a = some { cls := .type "tuple", data := .seq vs.toArray } → Q (.ref a) h') : hw (model prog w) A (newTuple vs) Q h := by
  intro s e
  subst e
  exact wpAny_newObj_type ⟨⟨rfl, rfl, rfl⟩, q _ _ (KX.push _ _ _) (Nat.le_refl _) (by rw [Heap.size_push]; lia) (Heap.get?_push_size _ rfl)⟩ (by show vs.toArray.size ≤ sizeLine; rw [List.size_toArray]; exact hsz)
theorem hw_Subscript {value slice : Expr} {pos : Pos} {Q : Value → Heap → Prop} (x : hw (model prog w) A (eval value env) (rqSub (model prog w) A env value slice Q) h) :
    hw (model prog w) A (eval (.Subscript value slice pos) env) Q h :=
  fun s e => Subscript_ (wpAny_mono (x s e) (fun o s₁ y => wpAny_mono (nest y.2 s₁ rfl) (fun i s₂ z => wpAny_mono z (fun v s₃ u => ⟨y.1.trans u.1, u.2⟩) fun _ _ f => f) fun _ _ f => f) fun _ _ f => f)
theorem hw_item {value slice : Expr} {l : Addr} {items : Array Value} {k : Int} {u : Tok} {x : Value} {Q : Value → Heap → Prop} (hl : h.IsList l items) (h0 : 0 ≤ k) (hf : k < 2 ^ 63) (hx : items[k.toNat]? = some x) (q : Q x h)
    (hs : subscripted slice false (.ref l) (.int k u) = operate [.ref l, .int k u] (getItem (.ref l) (.int k u)) := by with_unfolding_all rfl) : hw (model prog w) A (subscriptTail value slice (.ref l) (.int k u)) Q h := by
  intro s e
  subst e
  exact tail_any hl.typeIs slot_list_getitem.lookup (wpAny_getItem_list hl h0 hf hx ⟨Sm.refl s, q⟩) hs
theorem hw_item_neg {value slice : Expr} {l : Addr} {items : Array Value} {k : Int} {u : Tok} {x : Value} {Q : Value → Heap → Prop} (hl : h.IsList l items) (h0 : k < 0) (h1 : -(items.size : Int) ≤ k) (hf : -(2 ^ 63) ≤ k) (hx : items[(k + items.size).toNat]? = some x) (q : Q x h)
    (hs : subscripted slice false (.ref l) (.int k u) = operate [.ref l, .int k u] (getItem (.ref l) (.int k u)) := by with_unfolding_all rfl) : hw (model prog w) A (subscriptTail value slice (.ref l) (.int k u)) Q h := by
  intro s e
  subst e
  exact tail_any hl.typeIs slot_list_getitem.lookup (wpAny_getItem_list_neg hl h0 h1 hf hx ⟨Sm.refl s, q⟩) hs
theorem hw_Slice {lower upper step : Option Expr} {p : Pos} {Q : Value → Heap → Prop} (x : hw (model prog w) A (evalPart lower env) (rqSl1 (model prog w) A env upper step Q) h) : hw (model prog w) A (eval (.Slice lower upper step p) env) Q h :=
  fun s e => wpAny_Slice (wpAny_mono (x s e) (fun l s₁ y => wpAny_mono (y.2 s₁ rfl) (fun u s₂ z => wpAny_mono (z.2 s₂ rfl) (fun st s₃ v => ⟨((y.1.trans z.1).trans v.1).trans ⟨rfl, rfl, rfl⟩, v.2 _ _ (KX.push _ _ _) (Nat.le_refl _) (by rw [Heap.size_push]; lia) (Heap.IsSliceOf.new ..)⟩) fun _ _ f => f) fun _ _ f => f) fun _ _ f => f)
theorem hw_part_none {Q : Value → Heap → Prop} (q : Q .none h) : hw (model prog w) A (evalPart none env) Q h := hw_pure q
theorem hw_part {e : Expr} {Q : Value → Heap → Prop} (x : hw (model prog w) A (eval e env) Q h) : hw (model prog w) A (evalPart (some e) env) Q h := x
theorem hw_slice {value slice : Expr} {l sl : Addr} {items : Array Value} {vl vu vs : Value} {lo hi st : Option Int} {ops : List Value} {Q : Value → Heap → Prop} (hl : h.IsList l items) (hs : h.IsSliceOf sl vl vu vs) (pl : IsPart vl lo) (pu : IsPart vu hi) (ps : IsPart vs st) (h0 : st ≠ some 0) (hsz : items.size ≤ sizeLine)
    (q : ∀ a h', KX [] h h' → h.objs.size ≤ a → a < h'.objs.size → h'.IsList a (slicePick items lo hi st) → Q (.ref a) h')
    (hsub : subscripted slice false (.ref l) (.ref sl) = operate ops (getItem (.ref l) (.ref sl))) : hw (model prog w) A (subscriptTail value slice (.ref l) (.ref sl)) Q h := by
  intro s e
  subst e
  exact tail_any hl.typeIs slot_list_getitem.lookup (wpAny_getItem_list_slice hl hs pl pu ps h0 ⟨⟨rfl, rfl, rfl⟩, q _ _ (KX.push _ _ _) (Nat.le_refl _) (by rw [Heap.size_push]; lia) ⟨_, Heap.get?_push_size _ rfl, rfl, 0, rfl⟩⟩ hsz) hsub
theorem hw_len {l : Addr} {items : Array Value} {Q : Value → Heap → Prop} (hl : h.IsList l items) (hf : (items.size : Int) < 2 ^ 63) (q : ∀ t, Q (.int items.size t) h) : hw (model prog w) A (call (.builtin "len") [.ref l]) Q h := by
  intro s e
  subst e
  exact Calls.call_len_list hl hf ⟨⟨rfl, rfl, rfl⟩, q _⟩
theorem hw_add_list {l b : Addr} {xs ys : Array Value} {Q : Value → Heap → Prop} (hl : h.IsList l xs) (hb : h.IsList b ys) (hsz : xs.size + ys.size ≤ sizeLine)
    (q : ∀ a h', KX [] h h' → h.objs.size ≤ a → a < h'.objs.size → h'.IsList a (xs ++ ys) → Q (.ref a) h') : hw (model prog w) A (binaryOp .Add (.ref l) (.ref b)) Q h := by
  intro s e
  subst e
  obtain ⟨⟨c, d, dt, sl⟩, ho, hc, n, hd⟩ := id hl
  obtain ⟨⟨c2, d2, dt2, sl2⟩, ho2, hc2, n2, hd2⟩ := id hb
  simp only at hc hd hc2 hd2
  subst hc hd hc2 hd2
  exact concat_meets ⟨_, ho, rfl⟩ ⟨_, ho2, rfl⟩ noFill_list_add seq_list_add PySem.F.slot_list_add PySem.F.entry_list_add (PySem.F.args_list_add_2 _ _) (list_addW l b xs ys n n2 d d2 sl sl2 hsz)
    ⟨ho, ho2, ⟨rfl, rfl, rfl⟩, q _ _ (KX.push _ _ _) (Nat.le_refl _) (by rw [Heap.size_push]; lia) ⟨_, Heap.get?_push_size _ rfl, rfl, 0, rfl⟩⟩
theorem hw_mul_list {l : Addr} {xs : Array Value} {k : Int} {u : Tok} {Q : Value → Heap → Prop} (hl : h.IsList l xs) (h0 : 0 ≤ k) (hk : k < 2 ^ 20) (hx : xs.size ≤ 16)
    (q : ∀ a h', KX [] h h' → h.objs.size ≤ a → a < h'.objs.size → h'.IsList a (List.replicate k.toNat xs.toList).flatten.toArray → Q (.ref a) h') : hw (model prog w) A (binaryOp .Mult (.ref l) (.int k u)) Q h := by
  intro s e
  subst e
  obtain ⟨⟨c, d, dt, sl⟩, ho, hc, n, hd⟩ := id hl
  simp only at hc hd
  subst hc hd
  have sz : xs.size * k.toNat ≤ 16 * 2 ^ 20 := Nat.mul_le_mul hx (by lia)
  have e : List.foldl (fun x1 x2 => x1 ++ x2) #[] (List.replicate (if xs.isEmpty = true then 0 else k.toNat) xs) = (List.replicate k.toNat xs.toList).flatten.toArray := by
    rw [listMul_foldl]
    by_cases hz : xs.isEmpty = true
    · rw [if_pos hz]
      have : xs.toList = [] := by simpa using hz
      simp [this]
    · rw [if_neg hz]; simp
  refine wpAny_binaryOp_repeat_ref (T := "list") (U := "int") (by decide) ⟨_, ho, rfl⟩ (fun s' => typeIs_int s' k u) noFill_list_mul F.fills_int_mul F.slot_int_rmul repeat_list F.slot_int_index.lookup
    (call_meets F.slot_int_rmul (typeIs_int s k u) F.entry_int_rmul (F.args_int_rmul_2 _ _) (lm_int_rmul_list_any k u l xs n d sl)
      ⟨ho, rfl, ⟨_, ho, rfl⟩, call_meets F.slot_list_mul ⟨_, ho, rfl⟩ F.entry_list_mul (F.args_list_mul_2 _ _)
        (lm_list_mul_any l xs n d sl k u (by simp [Builtin.List.listFitsIndex]; lia) (by lia) (by simp [Builtin.List.listTooLong, sizeLine]; lia))
        ⟨ho, ⟨rfl, rfl, rfl⟩, q _ _ (KX.push _ _ _) (Nat.le_refl _) (by rw [Heap.size_push]; lia) ⟨_, Heap.get?_push_size _ rfl, rfl, 0, by rw [e]⟩⟩⟩)
/-- data compared -/
theorem hw_eq_data {a b : Value} {da db : PyData} {as bs : List Addr} {n : Nat} {Q : Value → Heap → Prop} (OK : Ok A n) (ra : Reads h a da as) (rb : Reads h b db bs) (ha : da.canLay0 = true) (hb : db.canLay0 = true) (hu : min da.depth db.depth ≤ 8 * n)
    (q : Q (.bool (PyData.eqv da db)) h) : hw (model prog w) A (compareOp .Eq a b) Q h := by
  intro s e
  subst e
  exact SeqAt.rcAt_reads ra rb ha hb (by have := OK.un; lia) prog w _ _ ⟨Sm.refl s, q⟩
theorem hw_ne_data {a b : Value} {da db : PyData} {as bs : List Addr} {n : Nat} {Q : Value → Heap → Prop} (OK : Ok A n) (ra : Reads h a da as) (rb : Reads h b db bs) (ha : da.canLay0 = true) (hb : db.canLay0 = true) (hu : min da.depth db.depth ≤ 8 * n)
    (q : Q (.bool (!PyData.eqv da db)) h) : hw (model prog w) A (compareOp .NotEq a b) Q h := by
  intro s e
  subst e
  exact SeqAt.rcNeAt_reads ra rb ha hb (by have := OK.un; lia) prog w _ _ ⟨Sm.refl s, q⟩
end
end

-- B7
section
open PySem PySem.W PyProof.Rows

/-! ## More int operations -/
section
variable {prog : Program} {w : World} {A : Around} {h : Heap} {a b : Int} {t u : Tok} {Q : Value → Heap → Prop}
theorem hw_pow (h0 : 0 ≤ b) (h1 : b ≤ 1000000) (ha : a.natAbs < 2 ^ 64) (q : ∀ t, Q (.int (a ^ b.toNat) t) h) : hw (model prog w) A (binaryOp .Pow (.int a t) (.int b u)) Q h := fun s e => PyProof.Rows.pow_int_small h0 h1 ha ⟨Sm.refl s, e ▸ q _⟩
theorem hw_shl (h0 : 0 ≤ b) (h1 : b ≤ 1000000) (ha : a.natAbs < 2 ^ 64) (q : ∀ t, Q (.int (a * 2 ^ b.toNat) t) h) : hw (model prog w) A (binaryOp .LShift (.int a t) (.int b u)) Q h := fun s e => PyProof.Rows.lshift_int_small h0 h1 ha ⟨Sm.refl s, e ▸ q _⟩
theorem hw_ishl (h0 : 0 ≤ b) (h1 : b ≤ 1000000) (ha : a.natAbs < 2 ^ 64) (q : ∀ t, Q (.int (a * 2 ^ b.toNat) t) h) : hw (model prog w) A (inplaceOp .LShift (.int a t) (.int b u)) Q h := fun s e => PyProof.Rows.ilshift_int_small h0 h1 ha ⟨Sm.refl s, e ▸ q _⟩
theorem hw_shr (h0 : 0 ≤ b) (q : ∀ t, Q (.int (a / 2 ^ b.toNat) t) h) : hw (model prog w) A (binaryOp .RShift (.int a t) (.int b u)) Q h := fun s e => PyProof.Rows.rshift_int h0 ⟨Sm.refl s, e ▸ (by rw [Int.fdiv_eq_ediv_of_nonneg _ (Int.le_of_lt (Int.pow_pos (by decide)))]; exact q _)⟩
theorem hw_div (hb : 0 < b) (hs : b < 1073741824) (q : ∀ t, Q (.int (a / b) t) h) : hw (model prog w) A (binaryOp .FloorDiv (.int a t) (.int b u)) Q h := hw_fdiv (by lia) (by lia) fun t => by rw [Int.fdiv_eq_ediv_of_nonneg _ (by lia)]; exact q t
theorem hw_mod (hb : 0 < b) (q : ∀ t, Q (.int (a % b) t) h) : hw (model prog w) A (binaryOp .Mod (.int a t) (.int b u)) Q h := hw_fmod (by lia) fun t => by rw [Int.fmod_eq_emod_of_nonneg _ (by lia)]; exact q t
theorem hw_band (q : ∀ t, Q (.int (Builtin.bitAnd a b) t) h) : hw (model prog w) A (binaryOp .BitAnd (.int a t) (.int b u)) Q h := fun s e => PyProof.Rows.and_int ⟨Sm.refl s, e ▸ q _⟩
theorem hw_bor (q : ∀ t, Q (.int (Builtin.bitOr a b) t) h) : hw (model prog w) A (binaryOp .BitOr (.int a t) (.int b u)) Q h := fun s e => PyProof.Rows.or_int ⟨Sm.refl s, e ▸ q _⟩
theorem hw_ibor (q : ∀ t, Q (.int (Builtin.bitOr a b) t) h) : hw (model prog w) A (inplaceOp .BitOr (.int a t) (.int b u)) Q h := fun s e => PyProof.Rows.ior_int ⟨Sm.refl s, e ▸ q _⟩
theorem hw_truthy_int {Q : Bool → Heap → Prop} (q : Q (a != 0) h) : hw (model prog w) A (truthy (.int a t)) Q h := fun s e => PyProof.Rows.truthy_int ⟨Sm.refl s, e ▸ q⟩
theorem hw_AugAssign {env : Env} {x : Str} {p' p : Pos} {op : Operator} {value : Expr} {Q : Flow → Heap → Prop}
    (y : hw (model prog w) A (loadName env x) (rqAug (model prog w) A env x value op Q) h) :
    hw (model prog w) A (exec (.AugAssign (.Name x p') op value p) env) Q h := fun s e =>
  wpAny_AugAssign_Name (wpAny_mono (y s e) (fun _ s₁ y1 => wpAny_mono (y1.2 s₁ rfl) (fun _ s₂ y2 => wpAny_mono (y2.2 s₂ rfl) (fun _ s₃ y3 => wpAny_mono (y3.2 s₃ rfl) (fun _ s₄ y4 => ⟨((y1.1.trans y2.1).trans y3.1).trans y4.1, y4.2⟩) fun _ _ f => f) fun _ _ f => f) fun _ _ f => f) fun _ _ f => f)

theorem hw_tt {p q : Prop} (x : p) : if true = true then p else q := by rw [if_pos rfl]; exact x
theorem hw_ff {p q : Prop} (x : q) : if false = true then p else q := by rw [if_neg (by decide)]; exact x
/-! ## is, type -/
theorem hw_is {x y : Value} {Q : Value → Heap → Prop} (hp : plainIs x y = true) (q : Q (.bool (x == y)) h) : hw (model prog w) A (compareOp .Is x y) Q h := fun s e => wpAny_is_plain hp ⟨Sm.refl s, e ▸ q⟩
theorem hw_isnt {x y : Value} {Q : Value → Heap → Prop} (hp : plainIs x y = true) (q : Q (.bool (!(x == y))) h) : hw (model prog w) A (compareOp .IsNot x y) Q h := fun s e => wpAny_isNot_plain hp ⟨Sm.refl s, e ▸ q⟩
theorem hw_is_ref {x y : Addr} {ox oy : Obj} {Q : Value → Heap → Prop} (hx : h.get? x = some ox) (hy : h.get? y = some oy) (hb : ox.cls ≠ .type "tuple") (q : Q (.bool (decide (x = y))) h) : hw (model prog w) A (compareOp .Is (.ref x) (.ref y)) Q h := fun s e => by
  subst e
  by_cases hxy : x = y
  · subst hxy; exact wpAny_is_ref_self ⟨Sm.refl s, by rw [decide_eq_true rfl] at q; exact q⟩
  · exact wpAny_is_ref_other hxy hx hy hb ⟨Sm.refl s, by rw [decide_eq_false hxy] at q; exact q⟩
theorem hw_type {x : Value} {T : String} {Q : Value → Heap → Prop} (hx : ∀ s : Shared, s.heap = h → s.TypeIs x T) (hnb : (Value.type T == Value.type "builtin_function_or_method") = false) (q : Q (.type T) h) : hw (model prog w) A (call (.type "type") [x]) Q h := fun s e =>
  call_type_of (hx s e) hnb ⟨Sm.refl s, e ▸ q⟩

/-! ## Two stores at once -/
theorem kx_ext {h h' : Heap} (sz : h.objs.size ≤ h'.objs.size) (k : Heap.ExtBut h.objs.size h h') : KX [] h h' := KX.of_all sz fun b o e => k b o (Nat.ne_of_lt (Heap.lt_size e)) e
theorem hw_grown {α : Type} {M : Model} {t : Sem α} {Q : α → Heap → Prop} (x : hw M A t (fun a h' => h.objs.size ≤ h'.objs.size → Q a h') h) : hw M A t Q h := hw_ext x
theorem hw_unpackItems {t : Addr} {items : Array Value} {n : Nat} {Q : List Value → Heap → Prop} (hA : A.handled = none) (ht : IsTup h t items) (hn : n = items.size) (q : ∀ h', KX [] h h' → Q items.toList h') : hw (model prog w) A (unpackItems (.ref t) n none) Q h := by
  subst hn
  refine hw_ext fun s e => ?_
  subst e
  exact unpackItems_tuple hA ht fun h' k => ⟨⟨rfl, rfl, rfl⟩, fun sz => q h' (kx_ext sz k)⟩
theorem hw_inOrder_nil {Q : Unit → Heap → Prop} (q : Q () h) : hw (model prog w) A (assignInOrder [] []) Q h := hw_pure q
theorem hw_inOrder_cons {f : Value → Sem Unit} {fs : List (Value → Sem Unit)} {x : Value} {xs : List Value} {Q : Unit → Heap → Prop} (y : hw (model prog w) A (f x) (fun _ h₁ => hw (model prog w) A (assignInOrder fs xs) Q h₁) h) : hw (model prog w) A (assignInOrder (f :: fs) (x :: xs)) Q h := by
  show hw _ A (do holding xs (f x); assignInOrder fs xs) Q h
  exact hw_bind (hw_holding y)
theorem hw_bindName {env : Env} {x : Str} {v : Value} {Q : Unit → Heap → Prop} (y : hw (model prog w) A (storeName env x v) Q h) : hw (model prog w) A (bindName env x v) Q h := fun s e => wpAny_bindName (y s e)
theorem hw_assign_Name {env : Env} {x : Str} {px : Pos} {v : Value} {Q : Unit → Heap → Prop} (y : hw (model prog w) A (storeName env x v) Q h) : hw (model prog w) A (assign (.Name x px) env v) Q h := fun s e => PyProof.Rows.assign_Name (y s e)
theorem hw_unpackList {t : Addr} {v1 v2 : Value} {Q : List Value → Heap → Prop} (hA : A.handled = none) (ht : h.IsList t #[v1, v2]) (q : ∀ h', KX [] h h' → Q [v1, v2] h') : hw (model prog w) A (unpackItems (.ref t) 2 none) Q h := by
  unfold unpackItems
  refine hw_bind ?_
  unfold notIterableAtAll
  refine hw_bind (fun s e => ?_)
  subst e
  refine wpAny_specialOf ht.typeIs slot_list_iter.lookup ⟨Sm.refl s, ?_⟩
  refine hw_pure ?_
  simp only [Bool.false_eq_true, if_false]
  show hw _ A (do let it ← holding [.ref t] (pyIter (.ref t)); _) Q s.heap
  refine hw_bind (hw_holding (hw_iter_list ht fun it h₁ k1 hit hne hlt I L => ?_))
  have T : Itr (model prog w) (.ref it) [it, t] [it] 2 (fun i v _ => (#[v1, v2] : Array Value)[i]? = some v) (fun i h => h.IsListIter it t i ∧ h.IsList t #[v1, v2]) := itr_list (items := #[v1, v2]) hne
  show hw _ A (do let items ← holding [.ref it] (draw (.ref it) 2); _) Q h₁
  have step : ∀ i h₁, h₁.IsListIter it t i ∧ h₁.IsList t #[v1, v2] → ∀ {β : Type} (f : Option Value → Sem β) (R : β → Heap → Prop), (∀ h₂ r, KX [it] h₁ h₂ → (r = none ∧ 2 ≤ i ∨ ∃ v, r = some v ∧ i < 2 ∧ (#[v1, v2] : Array Value)[i]? = some v ∧ h₂.IsListIter it t (i + 1) ∧ h₂.IsList t #[v1, v2]) → hw (model prog w) A (f r) R h₂) → hw (model prog w) A (pyNext (.ref it) >>= f) R h₁ := by
    intro i h₁ p β f R q
    exact hw_bind (hw_mono (T.next A i h₁ hA p) fun r h₂ ⟨k, z⟩ => q h₂ r k z)
  refine hw_bind (hw_holding ?_)
  unfold draw
  refine step 0 h₁ ⟨I, L⟩ _ _ fun h₂ r k2 z => ?_
  rcases z with ⟨_, z⟩ | ⟨v, rfl, _, e1, I2, L2⟩
  · lia
  refine hw_bind (hw_holding ?_)
  unfold draw
  refine step 1 h₂ ⟨I2, L2⟩ _ _ fun h₃ r k3 z => ?_
  rcases z with ⟨_, z⟩ | ⟨v', rfl, _, e2, I3, L3⟩
  · lia
  refine hw_bind (hw_holding ?_)
  unfold draw
  refine hw_pure (hw_pure (hw_pure ?_))
  simp at e1 e2
  subst e1 e2
  rw [if_neg (by simp)]
  refine hw_bind (hw_holding (hw_mono (T.next A 2 h₃ hA ⟨I3, L3⟩) fun r h₄ ⟨k4, z⟩ => ?_))
  rcases z with ⟨rfl, _⟩ | ⟨_, _, z, _⟩
  · rw [if_neg (by simp)]
    refine hw_pure (q h₄ ?_)
    exact k1.below (k2.trans (k3.trans k4)) fun a ha => by cases List.mem_singleton.mp ha; exact hit
  · lia
theorem hw_assign_pair {env : Env} {x y : Str} {px py tp : Pos} {k : Nat} {t : Addr} {v1 v2 : Value} {Q : Unit → Heap → Prop} (hA : A.handled = none) (ht : IsTup h t #[v1, v2] ∨ h.IsList t #[v1, v2])
    (q : ∀ h', KX [] h h' → hw (model prog w) A (storeName env x v1) (fun _ h₁ => hw (model prog w) A (storeName env y v2) Q h₁) h') : hw (model prog w) A (assign (.Tuple [.Name x px, .Name y py] k tp) env (.ref t)) Q h := by
  rw [PyProof.Rows.assign_Tuple]
  refine hw_bind (hw_standAt ?_)
  unfold unpack
  have fin : ∀ h', KX [] h h' → hw (model prog w) A (assignInOrder [assign (.Name x px) env, assign (.Name y py) env] [v1, v2]) Q h' := fun h' k =>
    hw_inOrder_cons (hw_assign_Name (hw_mono (q h' k) fun _ h₁ z => hw_inOrder_cons (hw_assign_Name (hw_mono z fun _ h₂ z' => hw_inOrder_nil z'))))
  refine hw_bind (hw_holding ?_)
  rcases ht with ht | ht
  · exact hw_unpackItems hA ht rfl fun h' k => fin h' k
  · exact hw_unpackList hA ht fun h' k => fin h' k
theorem hw_pairOf {env : Env} {vp : Pos} {k' : Nat} {e1 e2 : Expr} {Q : Value → Heap → Prop}
    (z : hw (model prog w) A (eval e1 env) (fun v1 h₁ => hw (model prog w) A (eval e2 env) (fun v2 h₂ => ∀ t h₃, KX [] h₂ h₃ → IsTup h₃ t #[v1, v2] → Q (.ref t) h₃) h₁) h)
    (h1 : starEach [e1, e2] env = (false, eval e1 env) :: starEach [e2] env) (h2 : starEach [e2] env = (false, eval e2 env) :: starEach [] env) : hw (model prog w) A (eval (.Tuple [e1, e2] k' vp) env) Q h := by
  refine hw_Tuple ?_
  exact hw_spl (hw_mono z fun v1 h₁ z1 => hw_spl (hw_mono z1 fun v2 h₂ z2 => hw_spl_nil (hw_newTuple (by show 2 ≤ sizeLine; decide) fun a h₃ k3 _ _ ho => z2 a h₃ k3 ⟨_, ho, rfl, 0, rfl⟩)) h2) h1
theorem hw_two {env : Env} {x y : Str} {px py tp vp p : Pos} {k k' : Nat} {e1 e2 : Expr} {Q : Flow → Heap → Prop} (hA : A.handled = none)
    (z : hw (model prog w) A (eval e1 env) (fun v1 h₁ => hw (model prog w) A (eval e2 env) (fun v2 h₂ => ∀ h₃, KX [] h₂ h₃ → hw (model prog w) A (storeName env x v1) (fun _ h₄ => hw (model prog w) A (storeName env y v2) (fun _ => Q .next) h₄) h₃) h₁) h)
    (hs : swapsWithSole [.Tuple [.Name x px, .Name y py] k tp] (.Tuple [e1, e2] k' vp) p.line env = pure false) (hw' : swappedStores [.Tuple [.Name x px, .Name y py] k tp] (.Tuple [e1, e2] k' vp) env = pure none)
    (h1 : starEach [e1, e2] env = (false, eval e1 env) :: starEach [e2] env := by rfl) (h2 : starEach [e2] env = (false, eval e2 env) :: starEach [] env := by rfl) :
    hw (model prog w) A (exec (.Assign [.Tuple [.Name x px, .Name y py] k tp] (.Tuple [e1, e2] k' vp) p) env) Q h := by
  have : hw (model prog w) A (eval (.Tuple [e1, e2] k' vp) env) (fun v h₁ => hw (model prog w) A (assign (.Tuple [.Name x px, .Name y py] k tp) env v) (fun _ => Q .next) h₁) h :=
    hw_pairOf (hw_mono z fun v1 h₁ z1 => hw_mono z1 fun v2 h₂ z2 t h₃ k3 ho => hw_assign_pair hA (.inl ho) fun h₄ k4 => z2 h₄ (k3.trans k4)) h1 h2
  exact fun s e => Assign_Tuple (nest this s e) hs hw'
/-- the stores exchanged -/
theorem hw_two' {env : Env} {x y : Str} {px py tp vp p : Pos} {k k' : Nat} {e1 e2 : Expr} {Q : Flow → Heap → Prop} (hA : A.handled = none)
    (z : hw (model prog w) A (eval e1 env) (fun v1 h₁ => hw (model prog w) A (eval e2 env) (fun v2 h₂ => ∀ h₃, KX [] h₂ h₃ → hw (model prog w) A (storeName env y v2) (fun _ h₄ => hw (model prog w) A (storeName env x v1) (fun _ => Q .next) h₄) h₃) h₁) h)
    (hs : swapsWithSole [.Tuple [.Name x px, .Name y py] k tp] (.Tuple [e1, e2] k' vp) p.line env = pure false) (hw' : swappedStores [.Tuple [.Name x px, .Name y py] k tp] (.Tuple [e1, e2] k' vp) env = pure (some [x, y]))
    (h1 : starEach [e1, e2] env = (false, eval e1 env) :: starEach [e2] env := by rfl) (h2 : starEach [e2] env = (false, eval e2 env) :: starEach [] env := by rfl) :
    hw (model prog w) A (exec (.Assign [.Tuple [.Name x px, .Name y py] k tp] (.Tuple [e1, e2] k' vp) p) env) Q h := by
  have : hw (model prog w) A (eval (.Tuple [e1, e2] k' vp) env) (fun v h₁ => hw (model prog w) A (unpackItems v 2 none) (fun items h₂ => hw (model prog w) A (assignInOrder [bindName env y, bindName env x] items.reverse) (fun _ => Q .next) h₂) h₁) h :=
    hw_pairOf (hw_mono z fun v1 h₁ z1 => hw_mono z1 fun v2 h₂ z2 t h₃ k3 ho => hw_unpackItems hA ho rfl fun h₄ k4 =>
      hw_inOrder_cons (hw_bindName (hw_mono (z2 h₄ (k3.trans k4)) fun _ h₅ z3 => hw_inOrder_cons (hw_bindName (hw_mono z3 fun _ h₆ z4 => hw_inOrder_nil z4))))) h1 h2
  refine fun s e => Assign_Tuple_swapped (names := [x, y]) (wpAny_mono (this s e) (fun v s₁ y1 => wpAny_mono (y1.2 s₁ rfl) (fun its s₂ y2 => wpAny_mono (y2.2 s₂ rfl) (fun _ s₃ y3 => ⟨(y1.1.trans y2.1).trans y3.1, y3.2⟩) fun _ _ f => f) fun _ _ f => f) fun _ _ f => f) hs hw'
end
end

-- B8
section
open PySem PySem.W PyProof.Rows

theorem KX.sz' {W : List Addr} {h h' : Heap} (k : KX W h h') : h.objs.size ≤ h'.objs.size := k.sz
theorem sb_nil {l : List (Str × Value)} : ∀ p ∈ ([] : List (Str × Value)), p ∈ l := fun _ hm => nomatch hm
theorem sb_cons {q : Str × Value} {l l' : List (Str × Value)} (hq : q ∈ l) (r : ∀ p ∈ l', p ∈ l) : ∀ p ∈ q :: l', p ∈ l := fun p hp => (List.mem_cons.mp hp).elim (fun e => e ▸ hq) (r p)
/-! ## Lists of ints -/
noncomputable def IL (h : Heap) (a : Addr) (ns : List Int) : Prop := ∃ vs : List Value, h.IsList a vs.toArray ∧ IntsAre vs ns
theorem ints_get {vs : List Value} {ns : List Int} (x : IntsAre vs ns) : ∀ {i : Nat} {n : Int}, ns[i]? = some n → ∃ t, vs[i]? = some (.int n t) := by
  induction x with
  | nil => intro i n e; simp at e
  | cons m t _ ih =>
    intro i n e
    cases i with
    | zero => simp at e; exact ⟨t, by simp [e]⟩
    | succ i => simpa using ih (by simpa using e)
theorem ints_val {vs : List Value} {ns : List Int} (x : IntsAre vs ns) : ∀ {i : Nat} {v : Value}, vs[i]? = some v → ∃ n t, v = .int n t ∧ ns[i]? = some n := by
  induction x with
  | nil => intro i n e; simp at e
  | cons m t _ ih =>
    intro i v e
    cases i with
    | zero => simp at e; exact ⟨m, t, e.symm, by simp⟩
    | succ i => simpa using ih (by simpa using e)
theorem IL.keep {h h' : Heap} {U : List Addr} {a : Addr} {ns : List Int} (x : IL h a ns) (k : KX U h h') (ha : a ∉ U) : IL h' a ns := let ⟨vs, l, i⟩ := x; ⟨vs, list_keep l k ha, i⟩
theorem IL.call {h h' : Heap} {a : Addr} {ns : List Int} (x : IL h a ns) (k : KX [] h h') : IL h' a ns := x.keep k fun hm => nomatch hm
theorem IL.lt {h : Heap} {a : Addr} {ns : List Int} (x : IL h a ns) : a < h.objs.size := let ⟨_, l, _⟩ := x; list_lt l
theorem Dep.il (a : Addr) (ns : List Int) : Dep [a] (fun h => IL h a ns) := fun _ hu _ _ k x => x.keep k fun hm => hu a hm (.head _)
theorem DepIn.il {h : Heap} {a : Addr} {ns : List Int} (x : IL h a ns) : DepIn h (fun h => IL h a ns) := ⟨[a], Dep.il a ns, fun b hb => by cases List.mem_singleton.mp hb; exact x.lt⟩
theorem IL.reads {h : Heap} {a : Addr} {ns : List Int} (x : IL h a ns) : Reads h (.ref a) (.list (ns.map PyData.int)) [a] := by
  obtain ⟨vs, ⟨o, ho, hc, n, hd⟩, i⟩ := x
  exact Reads.list ho hc hd (by simpa using ints_readAll h i)
theorem canLay_ints : ∀ ns : List Int, PyData.canLayAll0 (ns.map PyData.int) = true
  | [] => rfl
  | _ :: r => by simp only [List.map_cons, PyData.canLayAll0, PyData.canLay0, canLay_ints r, Bool.and_self]
theorem depth_ints : ∀ ns : List Int, PyData.depthAll (ns.map PyData.int) ≤ 1
  | [] => by simp [PyData.depthAll]
  | _ :: r => by simp only [List.map_cons, PyData.depthAll]; have := depth_ints r; simp only [PyData.depth]; lia
theorem depth_intl (ns : List Int) : (PyData.list (ns.map PyData.int)).depth ≤ 2 := by simp only [PyData.depth]; have := depth_ints ns; lia
section
variable {prog : Program} {w : World} {A : Around} {h : Heap}
theorem hw_ilItem {value slice : Expr} {l : Addr} {ns : List Int} {k : Int} {u : Tok} {x : Int} {Q : Value → Heap → Prop} (hl : IL h l ns) (h0 : 0 ≤ k) (hf : k < 2 ^ 63) (hx : ns[k.toNat]? = some x) (q : ∀ t, Q (.int x t) h)
    (hs : subscripted slice false (.ref l) (.int k u) = operate [.ref l, .int k u] (getItem (.ref l) (.int k u)) := by with_unfolding_all rfl) : hw (model prog w) A (subscriptTail value slice (.ref l) (.int k u)) Q h := by
  obtain ⟨vs, hl, hi⟩ := hl
  obtain ⟨t, ht⟩ := ints_get hi hx
  exact hw_item hl h0 hf (by simpa using ht) (q t) hs
theorem hw_ilLen {l : Addr} {ns : List Int} {Q : Value → Heap → Prop} (hl : IL h l ns) (hf : (ns.length : Int) < 2 ^ 63) (q : ∀ t, Q (.int ns.length t) h) : hw (model prog w) A (call (.builtin "len") [.ref l]) Q h := by
  obtain ⟨vs, hl, hi⟩ := hl
  have e : vs.toArray.size = ns.length := by rw [List.size_toArray]; exact hi.length
  exact hw_len hl (by rw [e]; exact hf) fun t => by rw [e]; exact q t
theorem hw_ilAdd {l b : Addr} {xs ys : List Int} {Q : Value → Heap → Prop} (hl : IL h l xs) (hb : IL h b ys) (hsz : xs.length + ys.length ≤ sizeLine)
    (q : ∀ a h', KX [] h h' → h.objs.size ≤ a → IL h' a (xs ++ ys) → Q (.ref a) h') : hw (model prog w) A (binaryOp .Add (.ref l) (.ref b)) Q h := by
  obtain ⟨vs, hl, hi⟩ := hl
  obtain ⟨us, hb, hj⟩ := hb
  exact hw_add_list hl hb (by rw [List.size_toArray, List.size_toArray, hi.length, hj.length]; exact hsz) fun a h' k ha ha' hn => q a h' k ha ⟨vs ++ us, by simpa using hn, intsAre_append hi hj⟩
theorem ints_one {c : Int} {t : Tok} : IntsAre [.int c t] [c] := .cons c t .nil
theorem hw_ilMul {l : Addr} {c : Int} {k : Int} {u : Tok} {Q : Value → Heap → Prop} (hl : IL h l [c]) (h0 : 0 ≤ k) (hk : k < 2 ^ 20)
    (q : ∀ a h', KX [] h h' → h.objs.size ≤ a → IL h' a (List.replicate k.toNat c) → Q (.ref a) h') : hw (model prog w) A (binaryOp .Mult (.ref l) (.int k u)) Q h := by
  obtain ⟨vs, hl, hi⟩ := hl
  have := hi.length
  refine hw_mul_list hl h0 hk (by rw [List.size_toArray, this]; show 1 ≤ 16; decide) fun a h' kx ha ha' hn => q a h' kx ha ⟨_, hn, ?_⟩
  have z := KM.ints_rep hi k.toNat
  simpa using z
theorem hw_ilEq {a b : Addr} {ns ms : List Int} {n : Nat} {Q : Value → Heap → Prop} (OK : Ok A (n + 1)) (ha : IL h a ns) (hb : IL h b ms) (q : Q (.bool (decide (ns = ms))) h) : hw (model prog w) A (compareOp .Eq (.ref a) (.ref b)) Q h := by
  refine hw_eq_data OK ha.reads hb.reads (canLay_ints ns) (canLay_ints ms) (by have := depth_intl ns; lia) ?_
  rw [PyData.eqv, ked_eqvAll]; exact q
theorem hw_ilNe {a b : Addr} {ns ms : List Int} {n : Nat} {Q : Value → Heap → Prop} (OK : Ok A (n + 1)) (ha : IL h a ns) (hb : IL h b ms) (q : Q (.bool (!decide (ns = ms))) h) : hw (model prog w) A (compareOp .NotEq (.ref a) (.ref b)) Q h := by
  refine hw_ne_data OK ha.reads hb.reads (canLay_ints ns) (canLay_ints ms) (by have := depth_intl ns; lia) ?_
  rw [PyData.eqv, ked_eqvAll]; exact q
theorem hw_ilNew {vs : List Value} {ns : List Int} {Q : Value → Heap → Prop} (hi : IntsAre vs ns) (hsz : ns.length ≤ sizeLine) (q : ∀ a h', KX [] h h' → h.objs.size ≤ a → IL h' a ns → Q (.ref a) h') : hw (model prog w) A (newList vs) Q h :=
  hw_newList (by rw [hi.length]; exact hsz) fun a h' k ha ha' l => q a h' k ha ⟨vs, l, hi⟩
end
section
variable {mg mb : Str → Option Value} {X : List Addr} {B : Heap} {W : List Addr} {env : Env} {l : List (Str × Value)} {I : Heap → Prop} {h h' : Heap}
theorem St.newP {P : Heap → Prop} {D : List Addr} (S : St mg mb X B W env l I h) (k : KX [] h h') (p : P h') (d : Dep D P) (hd : ∀ a ∈ D, h.objs.size ≤ a ∧ a < h'.objs.size) : St mg mb X B W env l (fun h => P h ∧ I h) h' :=
  (S.call k).add p d fun a ha => ⟨(hd a ha).2, S.new (hd a ha).1⟩
theorem St.only {P : Heap → Prop} {D : List Addr} (S : St mg mb X B W env l I h) (p : P h) (d : Dep D P) (hd : ∀ a ∈ D, a < h.objs.size ∧ a ∉ W) : St mg mb X B W env l P h :=
  { S with imm := p, dep := ⟨D, d, fun a ha => (hd a ha).1, fun a hw hm => (hd a hm).2 hw⟩ }
theorem St.onlyIL {a : Addr} {ns : List Int} (S : St mg mb X B W env l I h) (L : IL h a ns) (ha : a ∉ W) : St mg mb X B W env l (fun h => IL h a ns ∧ True) h :=
  S.only (P := fun h => IL h a ns ∧ True) ⟨L, trivial⟩ ((Dep.il a ns).and Dep.true) fun b hb => by cases List.mem_singleton.mp hb; exact ⟨L.lt, ha⟩
theorem St.newIL {a : Addr} {ns : List Int} (S : St mg mb X B W env l I h) (k : KX [] h h') (ha : h.objs.size ≤ a) (L : IL h' a ns) : St mg mb X B W env l (fun h => IL h a ns ∧ I h) h' :=
  S.newP k L (Dep.il a ns) fun b hb => by cases List.mem_singleton.mp hb; exact ⟨ha, L.lt⟩
end
end

-- B9
section
open PySem PySem.W PyProof.Rows PySem.Calls

/-! ## Calls of defs with cells -/
theorem bindL_out {k : Str → Option NameKind} : ∀ (bs : List (Str × Value)) (m : Str → Option Value) (n : Str), n ∉ bs.map (·.1) → bindL k bs m n = m n
  | [], _, _, _ => rfl
  | (x, v) :: r, m, n, h => by
    rw [List.map_cons, List.mem_cons, not_or] at h
    rw [bindL, bindL_out r _ n h.2]
    split
    · simp only; rw [if_neg h.1]
    · rfl
theorem bindC_out {k : Str → Option NameKind} : ∀ (bs : List (Str × Value)) (m : Str → Option Value) (n : Str), n ∉ bs.map (·.1) → bindC k bs m n = m n
  | [], _, _, _ => rfl
  | (x, v) :: r, m, n, h => by
    rw [List.map_cons, List.mem_cons, not_or] at h
    rw [bindC, bindC_out r _ n h.2]
    split
    · rfl
    · simp only; rw [if_neg h.1]
theorem bindL_in {k : Str → Option NameKind} : ∀ (bs : List (Str × Value)) (m : Str → Option Value) (p : Str × Value), (bs.map (·.1)).Nodup → p ∈ bs → k p.1 = some .local → bindL k bs m p.1 = some p.2
  | [], _, _, _, h, _ => nomatch h
  | (x, v) :: r, m, p, hn, h, hk => by
    rw [List.map_cons, List.nodup_cons] at hn
    rw [bindL]
    rcases List.mem_cons.mp h with rfl | h
    · rw [bindL_out r _ _ hn.1, if_pos hk]; simp
    · exact bindL_in r _ p hn.2 h hk
theorem bindC_in {k : Str → Option NameKind} : ∀ (bs : List (Str × Value)) (m : Str → Option Value) (p : Str × Value), (bs.map (·.1)).Nodup → p ∈ bs → k p.1 ≠ some .local → bindC k bs m p.1 = some p.2
  | [], _, _, _, h, _ => nomatch h
  | (x, v) :: r, m, p, hn, h, hk => by
    rw [List.map_cons, List.nodup_cons] at hn
    rw [bindC]
    rcases List.mem_cons.mp h with rfl | h
    · rw [bindC_out r _ _ hn.1, if_neg hk]; simp
    · exact bindC_in r _ p hn.2 h hk
theorem cf_keys : ∀ (names : List (Str × NameKind)) (n : Nat) (acc : List (Str × Addr)), (names.map (·.1) ++ acc.map (·.1)).Nodup → ((cellsFrom n names acc).map (·.1)).Nodup
  | [], _, acc, h => h
  | (x, k) :: r, n, acc, h => by
    rw [cellsFrom]
    split
    · refine cf_keys r (n + 1) _ ?_
      exact (List.Perm.nodup_iff List.perm_middle).mpr h
    · refine cf_keys r n acc ?_
      rw [List.map_cons, List.cons_append, List.nodup_cons] at h
      exact h.2
theorem lookup_in {α : Type} : ∀ (l : List (Str × α)) (p : Str × α), (l.map (·.1)).Nodup → p ∈ l → l.lookup p.1 = some p.2
  | [], _, _, h => nomatch h
  | (k, u) :: r, p, hn, hm => by
    rw [List.map_cons, List.nodup_cons] at hn
    rcases List.mem_cons.mp hm with rfl | hm
    · rw [List.lookup_cons, beq_self_eq_true]
    · have : p.1 ≠ k := fun e => hn.1 (by show k ∈ _; rw [← e]; exact List.mem_map_of_mem (f := Prod.fst) hm)
      rw [List.lookup_cons, beq_eq_false_iff_ne.mpr this]
      exact lookup_in r p hn.2 hm
section
variable {prog : Program} {w : World} {A : Around} {mg mb : Str → Option Value} {h : Heap}
theorem hw_fnC (j j' i : Nat) {f c : Addr} {pm : Value} (hm : addrTab[j]? = some (f, fobj i .none .none pm c)) (hcm : codeTab[j']? = some (c, fname (fstmt i))) (binds : List (Str × Value)) (bn : List Str) (W : List Addr) {args : List Value} (I : Heap → Prop) {Q : Value → Heap → Prop} {n : Nat}
    (OK : Ok A (n + 1)) (G : Gd mg mb h) (hbind : bindArgs (fdat i .none .none pm c) ⟨args, []⟩ = pure binds)
    (hloc : (bn.all fun x => (fscope (fstmt i)).names.lookup x == some .local || ((fscope (fstmt i)).names.lookup x == some .cell && ((cellsFrom (h.objs.size + 1) (fscope (fstmt i)).names []).lookup x).isSome)) = true) (hnd : bn.Nodup) (hbn : binds.map (·.1) = bn)
    (hW : h.objs.size :: (cellsFrom (h.objs.size + 1) (fscope (fstmt i)).names []).map (·.2) = W)
    (hnames : ((fscope (fstmt i)).names.map (·.1)).Nodup) (ii : I h) (hi : DepIn h I)
    (x : ∀ A' h₁, Ok A' n → St mg mb [] h W (callEnvC (fdat i .none .none pm c) h.objs.size f) binds I h₁ →
      hw (model prog w) A' (execs (fbody (fstmt i)) (callEnvC (fdat i .none .none pm c) h.objs.size f)) (rqFn Q) h₁)
    (hsc : ((fscope (fstmt i)).isCoroutine, (fscope (fstmt i)).isGenerator, (fscope (fstmt i)).kind) = (false, false, .function)) : hw (model prog w) A (call (.ref f) args) Q h := by
  subst hW
  refine hw_call fun s e => ?_
  subst e
  have ho := G.at_ _ (List.mem_of_getElem? hm)
  have hk0 : ∀ p ∈ binds, (fscope (fstmt i)).names.lookup p.1 = some .local ∨ ((fscope (fstmt i)).names.lookup p.1 = some .cell ∧ ((cellsFrom (s.heap.objs.size + 1) (fscope (fstmt i)).names []).lookup p.1).isSome = true) := fun p hp => by
    have := List.all_eq_true.mp hloc p.1 (by rw [← hbn]; exact List.mem_map_of_mem hp)
    simpa using this
  refine codeAny_call_cells (fd := fdat i .none .none pm c) (by have := OK.dp; lia) ho rfl G.lim (G.cd _ (List.mem_of_getElem? hcm)) rfl hbind rfl hk0 (fun s₁ x₁ => ?_) (congrArg (·.1) hsc) (congrArg (·.2.1) hsc) (congrArg (·.2.2) hsc)
  generalize henv : callEnvC (fdat i .none .none pm c) s.heap.objs.size f = env at *
  have hloc' : env.locals = s.heap.objs.size := by rw [← henv]; rfl
  have hcells : env.cells = cellsFrom (s.heap.objs.size + 1) (fscope (fstmt i)).names [] := by rw [← henv]; rfl
  have hkind : ∀ y, env.kindOf y = (fscope (fstmt i)).names.lookup y := fun y => by rw [← henv]; rfl
  obtain ⟨h', tk, e1, k1⟩ := x₁.done
  have sz : s.heap.objs.size < s₁.heap.objs.size := by have := x₁.toInCall.ns.lt; rw [hloc'] at this; exact this
  have kx : KX [] s.heap s₁.heap := KX.of_all (Nat.le_of_lt sz) x₁.toInCall.keep
  obtain ⟨D, hD, hlt⟩ := hi
  have cel : ∀ y d, env.cells.lookup y = some d → s.heap.objs.size < d := fun y d hy => by have := x₁.above y d (mem_of_lookup hy); rwa [hloc'] at this
  have cmem : ∀ d ∈ env.cells.map (·.2), s.heap.objs.size < d ∧ d < s₁.heap.objs.size := by
    intro d hd
    obtain ⟨⟨y, d'⟩, hy, rfl⟩ := List.mem_map.mp hd
    have h1 := x₁.above y d' hy
    rw [hloc'] at h1
    refine ⟨h1, ?_⟩
    exact (x₁.cell y d' (lookup_in _ (y, d') (by rw [hcells]; exact cf_keys _ _ _ (by simpa using hnames)) hy)).lt
  have S : St mg mb [] s.heap (s.heap.objs.size :: (cellsFrom (s.heap.objs.size + 1) (fscope (fstmt i)).names []).map (·.2)) env binds I s₁.heap := by
    rw [← hcells]
    have hmem : ∀ a ∈ s.heap.objs.size :: env.cells.map (·.2), s.heap.objs.size ≤ a ∧ a < s₁.heap.objs.size := fun a ha => by
      rcases List.mem_cons.mp ha with rfl | ha
      · exact ⟨Nat.le_refl _, sz⟩
      · exact ⟨Nat.le_of_lt (cmem a ha).1, (cmem a ha).2⟩
    exact
    { g := G.keep kx (fun _ hm => nomatch hm), base := kx
      fm := ⟨⟨_, x₁.toInCall.ns⟩, fun y d hy => ⟨_, x₁.cell y d hy⟩, fun p hp => by
        have hb := hbn ▸ hnd
        rcases hk0 p hp with hl | ⟨hl, hs⟩
        · exact .inl ⟨by rw [hkind]; exact hl, _, x₁.toInCall.ns, bindL_in _ _ p hb hp (by rw [hkind]; exact hl)⟩
        · obtain ⟨d, hd⟩ := Option.isSome_iff_exists.mp hs
          refine .inr ⟨.inl (by rw [hkind]; exact hl), d, by rw [hcells]; exact hd, ?_⟩
          have := x₁.cell p.1 d (by rw [hcells]; exact hd)
          rwa [bindC_in _ _ p hb hp (by rw [hkind, hl]; decide)] at this⟩
      imm := hD.call kx ii
      es := ⟨by rw [← henv]; exact congrArg (·.2.2) hsc, fun y d hy e => by exact Nat.lt_irrefl _ (Nat.lt_of_lt_of_eq (cel y d hy) (e.trans hloc')), fun y y' d e e' => name_of_addr x₁.apart (mem_of_lookup e) (mem_of_lookup e')⟩
      gl := by rw [← henv]; rfl
      bl := by rw [← henv]; rfl
      hi := fun a ha => .inl (Nat.le_trans G.sz (hmem a ha).1)
      wb := fun a ha => .inl (hmem a ha).1
      wlt := fun a ha => (hmem a ha).2
      dep := ⟨D, hD, fun a ha => Nat.lt_trans (hlt a ha) sz, fun a ha hm => Nat.lt_irrefl _ (Nat.lt_of_lt_of_le (hlt a hm) (hmem a ha).1)⟩ }
  refine wpAny_mono (x (A.deeper env) s₁.heap OK.deeper S s₁ rfl) (fun fl s' z => ?_) fun _ _ z => z.elim
  have sm : Sm s s' := (show Sm s s₁ by rw [e1]; exact ⟨rfl, rfl, rfl⟩).trans z.1
  cases fl <;> exact ⟨sm, z.2⟩
theorem keep_tab {M : Model} {f c : Addr} {i : Nat} {dV kV pm : Value} (G : Gd mg mb h) (j : Nat) (hm : addrTab[j]? = some (f, fobj i dV kV pm c)) : KeepOk M (.ref f) h := keep_fn (G.at_ _ (List.mem_of_getElem? hm))

/-! ## next, iter, range -/
theorem hw_special_list {it l : Addr} {i : Nat} {items : Array Value} {v : Value} {Q : Option Value → Heap → Prop} (hit : h.IsListIter it l i) (hl : h.IsList l items) (hx : items[i]? = some v)
    (q : ∀ h', h'.IsListIter it l (i + 1) → Heap.SameBut it h h' → Q (some v) h') : hw (model prog w) A (callSpecial? (.ref it) "__next__") Q h := by
  intro s e
  subst e
  obtain ⟨o, ho, hc, hd⟩ := id hit
  obtain ⟨ol, hol, _, nl, hdl⟩ := hl
  refine wpAny_callSpecial?_slot (name := Str.ofString "__next__") hit.typeIs slot_listiter_next (wpAny_call_entry slot_listiter_next hit.typeIs entry_listiter_next ?_ (args_listiter_next _))
  show wpAny _ _ (field (.ref it) 0 >>= _) _ _ s
  refine wpAny_bind (wpAny_field ho hd (x := .ref l) rfl ?_)
  show wpAny _ _ (if (Value.ref l == Value.none) = true then _ else _) _ _ s
  rw [if_neg (show ¬ ((Value.ref l == Value.none) = true) from Bool.false_ne_true)]
  show wpAny _ _ (field (.ref it) 1 >>= _) _ _ s
  refine wpAny_bind (wpAny_field ho hd (x := .int i 0) rfl ?_)
  show wpAny _ _ (seqItems? (.ref l) >>= _) _ _ s
  refine wpAny_bind (wpAny_seqItems hol hdl ?_)
  simp only [Int.toNat_natCast, hx]
  refine wpAny_bind (wpAny_setField ho hd (by simp) (wpAny_pure ⟨v, rfl, ⟨⟨rfl, rfl, rfl⟩, q _ ?_ (Heap.SameBut.update ..)⟩⟩))
  exact ⟨_, Heap.get?_update_self _ ho (Obj.isFreed_of_fields (Obj.data_mapFields hd _)), (Obj.cls_mapFields ..).trans hc, by
    rw [Obj.data_mapFields hd]; simp [rawInt]⟩
theorem hw_next {it l : Addr} {i : Nat} {items : Array Value} {v : Value} {Q : Value → Heap → Prop} (hit : h.IsListIter it l i) (hl : h.IsList l items) (hx : items[i]? = some v)
    (q : ∀ h', h'.IsListIter it l (i + 1) → Heap.SameBut it h h' → Q v h') : hw (model prog w) A (call (.builtin "next") [.ref it]) Q h := by
  intro s e
  subst e
  refine call_function_entry (by decide +kernel) (by decide +kernel) kdk_entry_next (kdk_args_next _) ?_
  unfold Builtin.«next»
  refine wpAny_bind (m := someArgs "next" 1 2 _) (wpAny_of_eq (a := [Value.ref it]) (by first | rfl | kernel_rfl!) ?_)
  dsimp only
  refine wpAny_bind (wpAny_specialOf (name := Str.ofString "__next__") hit.typeIs slot_listiter_next.lookup ?_)
  refine wpAny_ite_split (fun hab => absurd hab (by decide)) (fun _ => ?_)
  refine wpAny_bind (wpAny_mono (hw_special_list (Q := fun r h' => r = some v ∧ Q v h') hit hl hx (fun h' a b => ⟨rfl, q h' a b⟩) s rfl) (fun r s' y => ?_) fun _ _ f => f.elim)
  obtain ⟨sm, rfl, y⟩ := y
  exact wpAny_pure ⟨_, rfl, sm, y⟩
theorem hw_iter {x : Value} {Q : Value → Heap → Prop} (y : ∀ B, B.handled = A.handled → hw (model prog w) B (pyIter x) Q h) : hw (model prog w) A (call (.builtin "iter") [x]) Q h := by
  intro s e
  refine call_function_entry (by decide +kernel) (by decide +kernel) kdk_entry_iter (kdk_args_iter _) ?_
  unfold Builtin.«iter»
  refine wpAny_bind (m := someArgs "iter" 1 2 _) (wpAny_of_eq (a := [x]) (by first | rfl | kernel_rfl!) ?_)
  show wpAny _ _ (pyIter x >>= _) _ _ _
  refine wpAny_bind (wpAny_mono (y A.in1 rfl s e) (fun r s' z => ?_) fun _ _ f => f)
  exact wpAny_pure ⟨_, rfl, z.1, z.2⟩
/-- range(n): its turns give 0 to n - 1 -/
noncomputable def RIt (it : Addr) (n : Nat) (i : Nat) (h : Heap) : Prop := IsRangeIter h it (i : Int) ((n : Int) - i) 1
theorem itr_range {it : Addr} {n : Nat} : Itr (model prog w) (.ref it) [it] [it] n (fun i v _ => ∃ t, v = .int i t) (fun i h => i ≤ n ∧ RIt it n i h) where
  next := fun A i h hh p => by
    rcases Nat.lt_or_ge i n with hi | hi
    · intro s e
      subst e
      refine wpAny_pyNext_range_item p.2 (by lia) fun h' a b => ⟨⟨rfl, rfl, rfl⟩, KX.same b (.head _), .inr ⟨_, rfl, hi, ⟨_, rfl⟩, hi, ?_⟩⟩
      show IsRangeIter h' it ((i + 1 : Nat) : Int) _ 1
      have e1 : ((i + 1 : Nat) : Int) = (i : Int) + 1 := by lia
      have e2 : (n : Int) - ((i + 1 : Nat) : Int) = (n : Int) - i - 1 := by lia
      rw [e2, e1]; exact a
    · refine hw_ext fun s e => ?_
      subst e
      exact wpAny_pyNext_range_end hh p.2 (by lia) fun h' k => ⟨⟨rfl, rfl, rfl⟩, fun sz => ⟨⟨sz, fun b o hb e => k b o (fun z => hb (z ▸ .head _)) e⟩, .inl ⟨rfl, hi⟩⟩⟩
  iter := fun A i h p s e => by subst e; exact wpAny_pyIter_rangeiter p.2 ⟨Sm.refl s, rfl, rfl⟩
  stab := fun U hu i h h' k p => ⟨p.1, k.keep it _ (fun hm => hu _ hm (.head _)) p.2⟩
  wid := fun a ha => ha
theorem hw_iter_range {r : Addr} {n : Nat} {t u v : Tok} {Q : Value → Heap → Prop} (hr : IsRange h r 0 n 1 t u v) (hn : n < 2 ^ 60)
    (q : ∀ it h', KX [] h h' → h.objs.size ≤ it → it < h'.objs.size → RIt it n 0 h' → Q (.ref it) h') : hw (model prog w) A (pyIter (.ref r)) Q h := by
  intro s e
  subst e
  refine wpAny_pyIter_range hr (small_one (by decide) (by decide) (by lia) (by lia)) ⟨⟨rfl, rfl, rfl⟩, q _ _ (KX.push _ _ _) (Nat.le_refl _) (by rw [Heap.size_push]; lia) ?_⟩
  have e1 : Builtin.Range.rangeSize 0 (n : Int) 1 = (n : Int) := by rw [rangeSize_one]; split <;> lia
  rw [e1]
  show IsRangeIter _ _ ((0 : Nat) : Int) ((n : Int) - ((0 : Nat) : Int)) 1
  have e2 : (n : Int) - ((0 : Nat) : Int) = n := by lia
  rw [e2]
  exact Heap.get?_push_size _ rfl
theorem hw_range {n : Int} {t : Tok} {Q : Value → Heap → Prop} (q : ∀ r h' t u v, KX [] h h' → h.objs.size ≤ r → r < h'.objs.size → IsRange h' r 0 n 1 t u v → Q (.ref r) h') : hw (model prog w) A (call (.type "range") [.int n t]) Q h := by
  intro s e
  subst e
  exact call_range_1 ⟨⟨rfl, rfl, rfl⟩, q _ _ _ _ _ (KX.push _ _ _) (Nat.le_refl _) (by rw [Heap.size_push]; lia) (IsRange.new ..)⟩
end
end

-- B10
section
open PySem PySem.W PyProof.Rows PySem.Calls
section
variable {mg mb : Str → Option Value} {X : List Addr} {B : Heap} {W : List Addr} {env : Env} {l : List (Str × Value)} {I : Heap → Prop} {h h' : Heap}
theorem St.moreX {X' : List Addr} (S : St mg mb X B W env l I h) (hs : ∀ a ∈ X, a ∈ X') : St mg mb X' B W env l I h :=
  { S with base := S.base.mono hs, wb := fun a ha => (S.wb a ha).imp id (hs a) }
theorem St.turn {P : Heap → Prop} {D U : List Addr} (S : St mg mb X B W env l I h) (k : KX U h h') (hU : Hi U) (hX : ∀ a ∈ U, B.objs.size ≤ a ∨ a ∈ X) (h1 : env.locals ∉ U) (h2 : ∀ x c, env.cells.lookup x = some c → c ∉ U)
    (p : P h') (d : Dep D P) (hd : ∀ a ∈ D, a < h'.objs.size ∧ a ∉ W) : St mg mb X B W env l P h' where
  g := S.g.keep k hU
  base := S.base.above k hX
  fm := S.fm.keep k h1 h2
  imm := p
  es := S.es
  gl := S.gl
  bl := S.bl
  hi := S.hi
  wb := S.wb
  wlt := fun a ha => Nat.lt_of_lt_of_le (S.wlt a ha) k.sz
  dep := ⟨D, d, fun a ha => (hd a ha).1, fun a hw hm => (hd a hm).2 hw⟩
end
section
variable {mg mb : Str → Option Value} {X : List Addr} {B : Heap} {W : List Addr} {env : Env} {l : List (Str × Value)} {I : Heap → Prop} {h h' : Heap} {M : Model} {A : Around} {x : Str} {v : Value}
theorem hs_globL {p : Pos} {Q : Value → Heap → Prop} (S : St mg mb X B W env l I h) (hv : globTab.lookup x = some v) (hx : env.kindOf x = some .globalImplicit) (q : Q v h) (hd : (x == ("__debug__" : Str)) = false) : hw M A (eval (.Name x p) env) Q h := hs_glob S (mem_of_lookup hv) hx q hd
theorem hs_bltnL {p : Pos} {Q : Value → Heap → Prop} (S : St mg mb X B W env l I h) (hv : bltTab.lookup x = some v) (hx : env.kindOf x = some .globalImplicit) (q : Q v h) (hd : (x == ("__debug__" : Str)) = false) : hw M A (eval (.Name x p) env) Q h := hs_bltn S (mem_of_lookup hv) hx q hd
end
/-- a list and an iterator of it -/
noncomputable def LI (it l : Addr) (vs : List Value) (i : Nat) (h : Heap) : Prop := h.IsListIter it l i ∧ h.IsList l vs.toArray
theorem Dep.li (it l : Addr) (vs : List Value) (i : Nat) : Dep [it, l] (LI it l vs i) := fun _ hu _ _ k x => ⟨listiter_keep x.1 k fun hm => hu _ hm (.head _), list_keep x.2 k fun hm => hu _ hm (.tail _ (.head _))⟩
theorem listiter_lt {h : Heap} {it l : Addr} {i : Nat} (x : h.IsListIter it l i) : it < h.objs.size := let ⟨_, ho, _⟩ := x; Heap.lt_size ho
theorem LI.lt {it l : Addr} {vs : List Value} {i : Nat} {h : Heap} (x : LI it l vs i h) : ∀ a ∈ [it, l], a < h.objs.size := fun a ha => by
  rcases List.mem_cons.mp ha with rfl | ha
  · exact listiter_lt x.1
  · cases List.mem_singleton.mp ha; exact list_lt x.2
theorem DepIn.li {it l : Addr} {vs : List Value} {i : Nat} {h : Heap} (x : LI it l vs i h) : DepIn h (LI it l vs i) := ⟨_, Dep.li it l vs i, x.lt⟩
theorem hs_next {prog : Program} {w : World} {A : Around} {mg mb : Str → Option Value} {X : List Addr} {B : Heap} {W : List Addr} {env : Env} {l : List (Str × Value)} {h : Heap} {it lst : Addr} {vs : List Value} {i : Nat} {v : Value} {Q : Value → Heap → Prop} (S : St mg mb X B W env l (LI it lst vs i) h) (hx : vs[i]? = some v) (hne : it ≠ lst) (hi : 166 ≤ it) (hX : B.objs.size ≤ it ∨ it ∈ X) (h1 : env.locals ≠ it) (h2 : ∀ x c, env.cells.lookup x = some c → c ≠ it) (hW : it ∉ W ∧ lst ∉ W)
    (q : ∀ h', St mg mb X B W env l (LI it lst vs (i + 1)) h' → Q v h') : hw (model prog w) A (call (.builtin "next") [.ref it]) Q h := by
  refine hw_next S.imm.1 S.imm.2 (by simpa using hx) fun h₂ a b => q h₂ ?_
  have k : KX [it] h h₂ := KX.same b (.head _)
  have li : LI it lst vs (i + 1) h₂ := ⟨a, list_keep S.imm.2 k fun hm => hne (List.mem_singleton.mp hm).symm⟩
  refine S.turn k (fun a ha => ?_) (fun a ha => ?_) (fun hm => h1 (List.mem_singleton.mp hm)) (fun x c e hm => h2 x c e (List.mem_singleton.mp hm)) li (Dep.li it lst vs (i + 1)) (fun a ha => ⟨li.lt a ha, ?_⟩)
  · cases List.mem_singleton.mp ha; exact .inl hi
  · cases List.mem_singleton.mp ha; exact hX
  · rcases List.mem_cons.mp ha with rfl | ha
    · exact hW.1
    · cases List.mem_singleton.mp ha; exact hW.2
theorem Itr.ofWalks {prog : Program} {w : World} {it : Addr} {D wi : List Addr} {n : Nat} {V : Nat → Value → Prop} {P : Nat → Heap → Prop} (W : ∀ A : Around, A.handled = none → Walks prog w A it D wi n V P) (W0 : ∀ (A : Around) i (s : Shared) (Q : Value → Shared → Prop) (E : Value → Shared → Prop), P i s.heap → Q (.ref it) s → wpAny (model prog w) A (pyIter (.ref it)) Q E s) :
    Itr (model prog w) (.ref it) D wi n (fun i v _ => V i v) (fun i h => i ≤ n ∧ P i h) where
  next := fun A i h hh p => by
    rcases Nat.lt_or_ge i n with hi | hi
    · refine hw_ext fun s e => ?_
      subst e
      exact (W A hh).item i s _ _ hi p.2 fun v h' tk hv hp k => ⟨⟨rfl, rfl, rfl⟩, fun sz => ⟨⟨sz, fun b o hb e => k b o hb e⟩, .inr ⟨v, rfl, hi, hv, hi, hp⟩⟩⟩
    · have : i = n := Nat.le_antisymm p.1 hi
      subst this
      refine hw_ext fun s e => ?_
      subst e
      exact (W A hh).done s _ _ p.2 fun h' tk k => ⟨⟨rfl, rfl, rfl⟩, fun sz => ⟨⟨sz, fun b o hb e => k b o hb e⟩, .inl ⟨rfl, hi⟩⟩⟩
  iter := fun A i h p s e => W0 A i s _ _ (by rw [e]; exact p.2) ⟨Sm.refl s, rfl, e⟩
  stab := fun U hu i h h' k p => ⟨p.1, (W {} rfl).frame i h h' p.2 fun b hb o e => k.keep b o (fun hm => hu b hm hb) e⟩
  wid := (W {} rfl).sub
end

-- B11
section
open PySem PySem.W PyProof.Rows PySem.Calls

theorem cl_nil {env : Env} : ∀ p ∈ ([] : List (Str × Addr)), env.cells.lookup p.1 = some p.2 := fun _ hm => nomatch hm
theorem cl_cons {env : Env} {q : Str × Addr} {cl : List (Str × Addr)} (hq : env.cells.lookup q.1 = some q.2) (r : ∀ p ∈ cl, env.cells.lookup p.1 = some p.2) : ∀ p ∈ q :: cl, env.cells.lookup p.1 = some p.2 := fun p hp => (List.mem_cons.mp hp).elim (fun e => e ▸ hq) (r p)
theorem lc_nil {env : Env} {scope : Scope} {cl : List (Str × Addr)} {l : List (Str × Value)} : ∀ p ∈ ([] : List (Str × Value)), p ∈ l ∧ kOk env scope cl p.1 = true := fun _ hm => nomatch hm
theorem lc_cons {env : Env} {scope : Scope} {cl : List (Str × Addr)} {l lc : List (Str × Value)} {q : Str × Value} (hq : q ∈ l) (hk : kOk env scope cl q.1 = true) (r : ∀ p ∈ lc, p ∈ l ∧ kOk env scope cl p.1 = true) : ∀ p ∈ q :: lc, p ∈ l ∧ kOk env scope cl p.1 = true := fun p hp => (List.mem_cons.mp hp).elim (fun e => e ▸ ⟨hq, hk⟩) (r p)

section
variable {mg mb : Str → Option Value} {X : List Addr} {B : Heap} {W : List Addr} {env : Env} {l l₀ : List (Str × Value)} {I : Heap → Prop} {h h' h₁ : Heap}
theorem St.locals_lt (S : St mg mb X B W env l I h) : env.locals < h.objs.size := let ⟨_, hm⟩ := S.fm.loc; hm.lt
theorem St.cells_lt (S : St mg mb X B W env l I h) {y : Str} {c : Addr} (e : env.cells.lookup y = some c) : c < h.objs.size := let ⟨_, hv⟩ := S.fm.cel y c e; hv.lt
/-- what lies above a former heap may turn -/
theorem St.skip {U : List Addr} (S₀ : St mg mb X B W env l₀ I h₁) (S : St mg mb X B W env l I h) (hs : h₁.objs.size ≤ h.objs.size) (k : KX U h h') (hU : ∀ a ∈ U, h₁.objs.size ≤ a) : St mg mb X B W env l I h' := by
  obtain ⟨D, d1, d2, d3⟩ := S₀.dep
  have no : ∀ a, a < h₁.objs.size → a ∉ U := fun a ha hm => Nat.lt_irrefl _ (Nat.lt_of_lt_of_le ha (hU a hm))
  exact S.turn k (fun a ha => .inl (Nat.le_trans S₀.g.sz (hU a ha))) (fun a ha => .inl (Nat.le_trans S₀.base.sz (hU a ha))) (no _ S₀.locals_lt) (fun x c e => no _ (S₀.cells_lt e))
    (d1 U (fun a ha hd => no a (d2 a hd) ha) _ _ k S.imm) d1 (fun a ha => ⟨Nat.lt_of_lt_of_le (d2 a ha) (Nat.le_trans hs k.sz), fun hw => d3 a hw ha⟩)
/-- a new list behind a comprehension -/
theorem St.got {P : Heap → Prop} {D : List Addr} {C : Addr} {h₄ h₅ : Heap} (S : St mg mb X B W env l I h₁) (k4 : KX [] h₁ h₄) (k5 : KX [C] h₄ h₅) (hC : h₁.objs.size ≤ C) (p : P h₅) (d : Dep D P) (hd : ∀ a ∈ D, h₁.objs.size ≤ a ∧ a < h₅.objs.size) : St mg mb X B W env l (fun h => P h ∧ I h) h₅ :=
  (S.skip (S.call k4) k4.sz k5 fun a ha => by cases List.mem_singleton.mp ha; exact hC).add p d fun a ha => ⟨(hd a ha).2, S.new (hd a ha).1⟩
theorem St.gotIL {C acc : Addr} {h₄ h₅ : Heap} {ys : List Value} {ns : List Int} (S : St mg mb X B W env l I h₁) (k4 : KX [] h₁ h₄) (k5 : KX [C] h₄ h₅) (hC : h₁.objs.size ≤ C) (hac : h₁.objs.size ≤ acc) (hne : C ≠ acc) (hl : h₄.IsList acc ys.toArray) (hi : IntsAre ys ns) : St mg mb X B W env l (fun h => IL h acc ns ∧ I h) h₅ := by
  have L : IL h₅ acc ns := ⟨ys, list_keep hl k5 fun hm => hne (List.mem_singleton.mp hm).symm, hi⟩
  exact S.got k4 k5 hC L (Dep.il acc ns) fun b hb => by cases List.mem_singleton.mp hb; exact ⟨hac, L.lt⟩
theorem useC_none {M : Model} {A : Around} {Q : Value → Heap → Prop} {acc : Value} {C : Addr} (q : ∀ h', KX [C] h h' → Q acc h') : useC M A none Q acc C h := fun h' s => q h' (KX.same s (.head _))
theorem useC_store {prog : Program} {w : World} {A : Around} {z : Str} {pz : Pos} {a acc C : Addr} {l' : List (Str × Value)} {Q : Value → Heap → Prop} (S₀ : St mg mb X B W env l I h₁) (k : KX [] h₁ h) (hC : h₁.objs.size ≤ C) (hn : ∃ m, h.Ns C m) (ha : slotOf env z = some a) (hw' : a ∈ W) (hl : Dr z l l')
    (q : ∀ h', KX [a, C] h h' → St mg mb X B W env ((z, .ref acc) :: l') I h' → Q .none h') : useC (model prog w) A (some (assign (.Name z pz) env)) Q (.ref acc) C h := by
  obtain ⟨m, hm⟩ := hn
  have S := S₀.call k
  have hne : a ≠ C := fun e => Nat.lt_irrefl _ (Nat.lt_of_lt_of_le (S₀.wlt a hw') (e ▸ hC))
  show hw (model prog w) A (assign (.Name z pz) env (.ref acc)) (fun _ h'' => (∃ m, h''.Ns C m) ∧ ∀ h', Heap.SameBut C h'' h' → Q .none h') h
  refine hw_assign_Name (hs_put S ha hw' hl fun h₂ s2 S2 => ⟨⟨m, ns_keep hm (KX.same s2 (.head [])) fun hm => hne (List.mem_singleton.mp hm).symm⟩, fun h₃ s3 => ?_⟩)
  have k3 : KX [C] h₂ h₃ := KX.same s3 (.head _)
  have sz2 : h.objs.size ≤ h₂.objs.size := Nat.le_of_eq s2.1.symm
  refine q h₃ (KX.trans (KX.same s2 (.head _)) (k3.mono fun b hb => .tail _ hb)) (S₀.skip S2 (Nat.le_trans k.sz sz2) k3 fun b hb => ?_)
  cases List.mem_singleton.mp hb
  exact hC
end

theorem hw_ilAt {prog : Program} {w : World} {A : Around} {h : Heap} {value slice : Expr} {l : Addr} {ns : List Int} {i : Nat} {u : Tok} {Q : Value → Heap → Prop} (hl : IL h l ns) (hi : i < ns.length) (hf : ns.length ≤ 2 ^ 62) (q : ∀ t, Q (.int (ns.getD i 0) t) h)
    (hs : subscripted slice false (.ref l) (.int i u) = operate [.ref l, .int i u] (getItem (.ref l) (.int i u)) := by with_unfolding_all rfl) : hw (model prog w) A (subscriptTail value slice (.ref l) (.int i u)) Q h :=
  hw_ilItem hl (by lia) (by lia) (by rw [Int.toNat_natCast, List.getElem?_eq_getElem hi]; simp [List.getD, List.getElem?_eq_getElem hi]) q hs
theorem Itr.shift {M : Model} {it : Value} {D wi : List Addr} {n : Nat} {V : Nat → Value → Heap → Prop} {P : Nat → Heap → Prop} (T : Itr M it D wi n V P) (k : Nat) : Itr M it D wi (n - k) (fun i v h => V (k + i) v h) (fun i h => P (k + i) h) where
  next := fun A i h hA p => hw_mono (T.next A (k + i) h hA p) fun r h' ⟨kx, z⟩ => ⟨kx, by
    rcases z with ⟨e, z⟩ | ⟨v, e, z, hv, hp⟩
    · exact .inl ⟨e, by lia⟩
    · exact .inr ⟨v, e, by lia, hv, hp⟩⟩
  iter := fun A i h p => T.iter A (k + i) h p
  stab := fun U hu i h h' kx p => T.stab U hu (k + i) h h' kx p
  wid := T.wid
theorem St.own {mg mb : Str → Option Value} {X : List Addr} {B : Heap} {W : List Addr} {env : Env} {l : List (Str × Value)} {I : Heap → Prop} {h : Heap} {P : Heap → Prop} {D : List Addr} (S : St mg mb X B W env l I h) (a : Addr) (ha : B.objs.size ≤ a) (hlt : a < h.objs.size) (h166 : 166 ≤ a) (p : P h) (d : Dep D P) (hd : ∀ b ∈ D, b < h.objs.size ∧ b ∉ W ∧ b ≠ a) : St mg mb X B (a :: W) env l P h :=
  { S with
    imm := p
    hi := fun b hb => (List.mem_cons.mp hb).elim (fun e => e ▸ .inl h166) (S.hi b)
    wb := fun b hb => (List.mem_cons.mp hb).elim (fun e => e ▸ .inl ha) (S.wb b)
    wlt := fun b hb => (List.mem_cons.mp hb).elim (fun e => e ▸ hlt) (S.wlt b)
    dep := ⟨D, d, fun b hb => (hd b hb).1, fun b hb hm => (List.mem_cons.mp hb).elim (fun e => (hd b hm).2.2 e) fun hb => (hd b hm).2.1 hb⟩ }
theorem paired_filter {α : Type} {R : Nat → α → Prop} {p : Nat → Bool} {i : Nat} {ys : List α} {y : α} (x : Paired R ((List.range i).filter p) ys) (hp : p i = true) (r : R i y) : Paired R ((List.range (i + 1)).filter p) (ys ++ [y]) := by
  rw [List.range_succ, List.filter_append, List.filter_cons, if_pos hp]
  exact x.snoc r
theorem paired_skip {α : Type} {R : Nat → α → Prop} {p : Nat → Bool} {i : Nat} {ys : List α} (x : Paired R ((List.range i).filter p) ys) (hp : p i = false) : Paired R ((List.range (i + 1)).filter p) ys := by
  rw [List.range_succ, List.filter_append, List.filter_cons, if_neg (by rw [hp]; decide)]
  simpa using x
theorem paired_imp' {α β : Type} {F G : α → β → Prop} {l : List α} {m : List β} (h : ∀ a, ∀ b ∈ m, F a b → G a b) (p : Paired F l m) : Paired G l m := by
  induction p with
  | nil => exact .nil
  | cons x r ih => exact .cons (h _ _ (.head _) x) (ih fun a b hb => h a b (.tail _ hb))
theorem paired_imp {α β : Type} {F G : α → β → Prop} (h : ∀ a b, F a b → G a b) {l : List α} {m : List β} (p : Paired F l m) : Paired G l m := paired_imp' (fun a b _ => h a b) p

section
variable {prog : Program} {w : World} {A : Around} {mg mb : Str → Option Value} {X : List Addr} {B : Heap} {W : List Addr} {env : Env} {l : List (Str × Value)} {I : Heap → Prop} {h₁ h₂ : Heap}
theorem asg_name {x : Str} {px : Pos} {scope : Scope} {cl : List (Str × Addr)} {it : Value} {D wi : List Addr} {n : Nat} {V : Nat → Value → Prop} {P : Nat → Heap → Prop} (hkind : scope.kind = .function) (hx : scope.names.lookup x = some .local) (T : Itr (model prog w) it D wi n (fun i v _ => V i v) P) (hD : ∀ a ∈ D, a < h₂.objs.size) :
    ∀ C i v h m, h₂.objs.size ≤ C → i < n → h.Ns C m → (V i v ∧ P (i + 1) h) → hw (model prog w) A (letOwnedTupleGo (.Name x px) it v >>= fun _ => assign (.Name x px) (compEnvC scope cl C env) v) (fun _ h' => KX (C :: wi) h h' ∧ P (i + 1) h' ∧ ∃ lb m', h'.Ns C m' ∧ (∀ p ∈ lb, scope.names.lookup p.1 = some .local ∧ m' p.1 = some p.2) ∧ ∃ v, lb = [(x, v)] ∧ V i v) h := by
  intro C i v h m hC hi hm ⟨hv, hp⟩
  refine hw_bind (hw_pure (hw_assign_Name fun s e => ?_))
  subst e
  refine wpAny_storeName_local (show (compEnvC scope cl C env).kindOf x = some .local from lookup_relabel_local hx) hm (fun h5 hn5 hs5 => ⟨⟨rfl, rfl, rfl⟩, KX.same hs5 (.head _), ?_, _, _, hn5, ?_, v, rfl, hv⟩) (by show (scope.kind == .class || (scope.kind == .module && _)) = false; rw [hkind]; rfl)
  · refine T.stab [C] (fun a ha hd => ?_) _ _ _ (KX.same hs5 (.head _)) hp
    cases List.mem_singleton.mp ha
    exact Nat.lt_irrefl _ (Nat.lt_of_lt_of_le (hD _ hd) hC)
  · intro p hp
    cases List.mem_singleton.mp hp
    exact ⟨hx, by simp⟩
/-- values -/
theorem hs_mapV {elt iter : Expr} {x : Str} {px pos : Pos} {ifs : List Expr} {scope : Scope} {cl : List (Str × Addr)} {use : Option (Value → Sem Unit)} {Q : Value → Heap → Prop} {it : Value} {D wi : List Addr} {n : Nat} {V : Nat → Value → Prop} {P : Nat → Heap → Prop}
    (lc : List (Str × Value)) (p : Nat → Bool) (R : Nat → Value → Prop)
    (hA : A.handled = none) (S : St mg mb X B W env l I h₁) (hclos : closureFor scope env = pure cl)
    (hkind : scope.kind = .function) (hcell : (scope.names.all fun y => y.2 != .cell) = true) (hnames : (scope.names.all fun y => y.2 != .local || scope.names.lookup y.1 == some .local) = true) (hx : scope.names.lookup x = some .local)
    (hcl : ∀ p ∈ cl, env.cells.lookup p.1 = some p.2) (hlc : ∀ p ∈ lc, p ∈ l ∧ kOk env scope cl p.1 = true)
    (T : Itr (model prog w) it D wi n (fun i v _ => V i v) P) (p0 : P 0 h₂) (k12 : KX [] h₁ h₂) (hD : ∀ a ∈ D, a < h₂.objs.size) (hn : n ≤ sizeLine) (hwi : ∀ a ∈ wi, h₁.objs.size ≤ a)
    (turn : ∀ C i v h, KX wi h₂ h → i < n → V i v → St mg mb [] h [] (compEnvC scope cl C env) ((x, v) :: lc) I h →
      tests (model prog w) A (compEnvC scope cl C env) ifs (fun ok h' => ok = p i ∧ if ok then hw (model prog w) A (eval elt (compEnvC scope cl C env)) (fun y h'' => KX [] h h'' ∧ R i y) h' else KX [] h h') h)
    (fin : ∀ C acc ys h, KX [] h₁ h → h₁.objs.size ≤ C → h₁.objs.size ≤ acc → C ≠ acc → h.IsList acc ys.toArray → (∃ m, h.Ns C m) → Paired R ((List.range n).filter p) ys → useC (model prog w) A use Q (.ref acc) C h) :
    hw (model prog w) A (newList []) (fun acc h₃ => hw (model prog w) A (newFunctionEnv scope env.globals cl [] env.qual none .none (some env)) (fun cenv h₄ =>
      hc (model prog w) A (.compStart (.ListComp elt [⟨.Name x px, iter, ifs, 0⟩] scope pos) 0 it acc { cenv with scope := relabel scope env }) (fun _ h => (∃ m, h.Ns cenv.locals m) ∧ useC (model prog w) A use Q acc cenv.locals h) h₄) h₃) h₂ := by
  have kx : ∀ {h}, KX (wi ++ []) h₂ h → KX wi h₂ h := fun k => k.mono fun a ha => by simpa using ha
  refine hs_comp (wt := []) (V := fun i lb _ => ∃ v, lb = [(x, v)] ∧ V i v) lc (fun _ i ys _ => Paired R ((List.range i).filter p) ys) hA S hclos hkind hcell hnames hcl hlc T.toT p0 k12 hD hn (fun a ha => .inl (hwi a ha)) (fun _ hm => nomatch hm) (asg_name hkind hx T hD) (fun _ _ _ _ => .nil) (fun _ _ _ _ _ _ j => j) ?_ ?_
  · rintro C acc i lb ys h k hC ha hC' ha' hwi' hi ⟨v, rfl, hv⟩ j S'
    have t := turn C i v h (kx k) hi hv S'
    have key : ∀ ok h', (ok = p i ∧ if ok = true then hw (model prog w) A (eval elt (compEnvC scope cl C env)) (fun y h'' => KX [] h h'' ∧ R i y) h' else KX [] h h') →
        (if ok = true then hw (model prog w) A (eval elt (compEnvC scope cl C env)) (fun y h'' => KX [] h h'' ∧ Paired R ((List.range (i + 1)).filter p) (ys ++ [y])) h' else KX [] h h' ∧ Paired R ((List.range (i + 1)).filter p) ys) := by
      rintro ok h' ⟨e, z⟩
      cases ok
      · simp only [Bool.false_eq_true, if_false] at z ⊢
        exact ⟨z, paired_skip j e.symm⟩
      · simp only [if_true] at z ⊢
        exact hw_mono z fun y h'' ⟨k, r⟩ => ⟨k, paired_filter j e.symm r⟩
    exact tests_mono t key
  · intro C acc ys h k hC ha hne hl hm hy j
    refine fin C acc ys h (k12.below (kx k) hwi) (Nat.le_trans k12.sz hC) (Nat.le_trans k12.sz ha) hne hl hm j
/-- new objects, one a turn -/
theorem hs_mapA {elt iter : Expr} {x : Str} {px pos : Pos} {scope : Scope} {cl : List (Str × Addr)} {use : Option (Value → Sem Unit)} {Q : Value → Heap → Prop} {it : Value} {D wi : List Addr} {n : Nat} {V : Nat → Value → Prop} {P : Nat → Heap → Prop}
    (lc : List (Str × Value)) (R : Nat → Addr → Heap → Prop) (hR : ∀ i a, Dep [a] (R i a))
    (hA : A.handled = none) (S : St mg mb X B W env l I h₁) (hclos : closureFor scope env = pure cl)
    (hkind : scope.kind = .function) (hcell : (scope.names.all fun y => y.2 != .cell) = true) (hnames : (scope.names.all fun y => y.2 != .local || scope.names.lookup y.1 == some .local) = true) (hx : scope.names.lookup x = some .local)
    (hcl : ∀ p ∈ cl, env.cells.lookup p.1 = some p.2) (hlc : ∀ p ∈ lc, p ∈ l ∧ kOk env scope cl p.1 = true)
    (T : Itr (model prog w) it D wi n (fun i v _ => V i v) P) (p0 : P 0 h₂) (k12 : KX [] h₁ h₂) (hD : ∀ a ∈ D, a < h₂.objs.size) (hn : n ≤ sizeLine) (hwi : ∀ a ∈ wi, h₁.objs.size ≤ a)
    (turn : ∀ C i v h, KX wi h₂ h → i < n → V i v → St mg mb [] h [] (compEnvC scope cl C env) ((x, v) :: lc) I h →
      hw (model prog w) A (eval elt (compEnvC scope cl C env)) (fun y h'' => KX [] h h'' ∧ ∃ a, y = .ref a ∧ h.objs.size ≤ a ∧ R i a h'') h)
    (fin : ∀ C acc as h, KX [] h₁ h → h₁.objs.size ≤ C → h₁.objs.size ≤ acc → C ≠ acc → h.IsList acc (as.map Value.ref).toArray → (∃ m, h.Ns C m) → (∀ a ∈ as, h₁.objs.size ≤ a ∧ a ≠ C) → Paired (fun i a => R i a h) (List.range n) as → useC (model prog w) A use Q (.ref acc) C h) :
    hw (model prog w) A (newList []) (fun acc h₃ => hw (model prog w) A (newFunctionEnv scope env.globals cl [] env.qual none .none (some env)) (fun cenv h₄ =>
      hc (model prog w) A (.compStart (.ListComp elt [⟨.Name x px, iter, [], 0⟩] scope pos) 0 it acc { cenv with scope := relabel scope env }) (fun _ h => (∃ m, h.Ns cenv.locals m) ∧ useC (model prog w) A use Q acc cenv.locals h) h₄) h₃) h₂ := by
  have kx : ∀ {h}, KX (wi ++ []) h₂ h → KX wi h₂ h := fun k => k.mono fun a ha => by simpa using ha
  refine hs_comp (wt := []) (V := fun i lb _ => ∃ v, lb = [(x, v)] ∧ V i v) lc (fun U i ys h => ∃ as : List Addr, ys = as.map Value.ref ∧ (∀ a ∈ as, a ∉ U ∧ h₂.objs.size ≤ a) ∧ Paired (fun i a => R i a h) (List.range i) as) hA S hclos hkind hcell hnames hcl hlc T.toT p0 k12 hD hn (fun a ha => .inl (hwi a ha)) (fun _ hm => nomatch hm) (asg_name hkind hx T hD) (fun _ _ _ _ => ⟨[], rfl, (fun _ hm => nomatch hm), .nil⟩) ?_ ?_ ?_
  · rintro U i ys h h' k ⟨as, rfl, hu, pr⟩
    exact ⟨as, rfl, hu, paired_imp' (fun i a ha r => hR i a U (fun b hb hm => by cases List.mem_singleton.mp hm; exact (hu _ ha).1 hb) h h' k r) pr⟩
  · rintro C acc i lb ys h k hC ha hC' ha' hwi' hi ⟨v, rfl, hv⟩ ⟨as, rfl, hu, pr⟩ S'
    simp only [tests, if_true]
    refine hw_mono (turn C i v h (kx k) hi hv S') fun y h'' ⟨k2, a, e, hlt, r⟩ => ⟨k2, as ++ [a], by simp [e], fun b hb => ?_, ?_⟩
    · rcases List.mem_append.mp hb with hb | hb
      · exact hu b hb
      · cases List.mem_singleton.mp hb
        refine ⟨fun hm => ?_, Nat.le_trans k.sz hlt⟩
        have : a < h.objs.size := by
          rcases List.mem_cons.mp hm with rfl | hm
          · exact hC'
          rcases List.mem_cons.mp hm with rfl | hm
          · exact ha'
          · exact hwi' a hm
        exact Nat.lt_irrefl _ (Nat.lt_of_lt_of_le this hlt)
    · rw [List.range_succ]
      exact (paired_imp' (fun i a ha r => hR i a [] (fun _ hm => nomatch hm) h h'' k2 r) pr).snoc r
  · rintro C acc ys h k hC ha hne hl hm hy ⟨as, rfl, hu, pr⟩
    exact fin C acc as h (k12.below (kx k) hwi) (Nat.le_trans k12.sz hC) (Nat.le_trans k12.sz ha) hne hl hm (fun a ha => ⟨Nat.le_trans k12.sz (hu a ha).2, fun e => (hu a ha).1 (e ▸ .head _)⟩) pr
theorem paired_ints {f : Nat → Int} {is : List Nat} {ys : List Value} (p : Paired (fun i v => ∃ t, v = Value.int (f i) t) is ys) : IntsAre ys (is.map f) := by
  induction p with
  | nil => exact .nil
  | cons x r ih => exact x.elim fun t e => e ▸ .cons _ t ih
theorem filter_true (n : Nat) : (List.range n).filter (fun _ => true) = List.range n := List.filter_eq_self.mpr fun _ _ => rfl
end
end

-- B12
section
open PySem PySem.W PyProof.Rows PySem.Calls

theorem tests_one {M : Model} {A : Around} {env : Env} {c : Expr} {Q : Bool → Heap → Prop} {h : Heap} (x : hw M A (isTrue c env (eval c env)) Q h) : tests M A env [c] Q h := x
/-! ## Lists that grow -/
theorem plain_keep {h h' : Heap} {U : List Addr} {a : Addr} {v : Array Value} (x : PlainL h a v) (k : KX U h h') (ha : a ∉ U) : PlainL h' a v := let ⟨o, n, ho, r⟩ := x; ⟨o, n, k.keep a o ha ho, r⟩
theorem Dep.plain (a : Addr) (v : Array Value) : Dep [a] (fun h => PlainL h a v) := fun _ hu _ _ k x => plain_keep x k fun hm => hu a hm (.head _)
theorem plain_lt {h : Heap} {a : Addr} {v : Array Value} (x : PlainL h a v) : a < h.objs.size := let ⟨_, _, ho, _⟩ := x; Heap.lt_size ho
section
variable {prog : Program} {w : World} {A : Around} {h : Heap} {env : Env}
theorem hw_newPlain {vs : List Value} {Q : Value → Heap → Prop} (hsz : vs.length ≤ sizeLine) (q : ∀ a h', KX [] h h' → h.objs.size ≤ a → PlainL h' a vs.toArray → Q (.ref a) h') : hw (model prog w) A (newList vs) Q h := by
  intro s e
  subst e
  exact wpAny_newObj_type ⟨⟨rfl, rfl, rfl⟩, q _ _ (KX.push _ _ _) (Nat.le_refl _) ⟨_, 0, Heap.get?_push_size _ rfl, rfl, rfl, rfl⟩⟩ (by show vs.toArray.size ≤ sizeLine; rw [List.size_toArray]; exact hsz)
theorem hw_Expr {e : Expr} {p : Pos} {Q : Flow → Heap → Prop} (x : hw (model prog w) A (eval e env) (fun v h' => v = .none ∧ Q .next h') h) (hi : interactive env = false := by rfl) (hs : swapsWith e none p.line env = pure false := by rfl) : hw (model prog w) A (exec (.Expr e p) env) Q h :=
  fun s e' => wpAny_Expr (wpAny_mono (x s e') (fun v s' z => by obtain ⟨sm, rfl, q⟩ := z; exact ⟨sm, q⟩) fun _ _ f => f) hi hs
theorem hw_Call_append {o elt : Expr} {apos pos : Pos} {Q : Value → Heap → Prop}
    (x : hw (model prog w) A (eval o env) (fun ov h₁ => ∃ D its, ov = .ref D ∧ PlainL h₁ D its ∧ hw (model prog w) A (eval elt env) (fun y h₂ => ∃ its', PlainL h₂ D its' ∧ its'.size ≤ sizeLine ∧ ∀ h', PlainL h' D (its'.push y) → Heap.SameBut D h₂ h' → Q .none h') h₁) h)
    (hbase : attributeBase o "append" env (eval o env) = eval o env) (hfew : ((backTo pos (starEach [elt] env)).all (fun x => !x.1) && (backToKw pos (keywordEach [] env)).all (fun x => x.1.isSome)
      && decide (([elt] : List Expr).length + ([] : List Keyword).length + (if ([] : List Keyword).isEmpty then 0 else 1) < 30)) = true)
    (hline : (apos.endLine == pos.line) = true) (htrees : backTo pos (starEach [elt] env) = [(false, eval elt env)]) : hw (model prog w) A (eval (.Call (.Attribute o "append" apos) [elt] [] pos) env) Q h := by
  intro s e
  refine wpAny_Call_append hbase hfew hline htrees (wpAny_mono (x s e) (fun ov s₁ y => ?_) fun _ _ f => f)
  obtain ⟨sm1, D, its, rfl, hp, y⟩ := y
  refine ⟨D, its, rfl, hp, wpAny_mono (y s₁ rfl) (fun v s₂ z => ?_) fun _ _ f => f⟩
  obtain ⟨sm2, its', hp', hsz, q⟩ := z
  exact list_append_plainL hp' (fun h' a b => ⟨(sm1.trans sm2).trans ⟨rfl, rfl, rfl⟩, q h' a b⟩) hsz
theorem comp_pair {x y : Str} {px py tp : Pos} {kk : Nat} {scope : Scope} {cl : List (Str × Addr)} {C T : Addr} {v1 v2 : Value} {m : Str → Option Value} (hA : A.handled = none) (hkind : scope.kind = .function) (hx : scope.names.lookup x = some .local) (hy : scope.names.lookup y = some .local) (hxy : x ≠ y) (hm : h.Ns C m) (ht : IsTup h T #[v1, v2] ∨ h.IsList T #[v1, v2]) :
    hw (model prog w) A (assign (.Tuple [.Name x px, .Name y py] kk tp) (compEnvC scope cl C env) (.ref T)) (fun _ h' => KX [C] h h' ∧ ∃ m', h'.Ns C m' ∧ m' x = some v1 ∧ m' y = some v2) h := by
  refine hw_assign_pair hA ht fun h₁ k1 s e => ?_
  subst e
  have hp : ((compEnvC scope cl C env).scope.kind == .class || ((compEnvC scope cl C env).scope.kind == .module && (compEnvC scope cl C env).locals != (compEnvC scope cl C env).globals)) = false := by
    show (scope.kind == .class || (scope.kind == .module && _)) = false
    rw [hkind]; rfl
  refine wpAny_storeName_local (show (compEnvC scope cl C env).kindOf x = some .local from lookup_relabel_local hx) (ns_keep hm k1 fun hm => nomatch hm) (fun h2 n2 s2 => ⟨⟨rfl, rfl, rfl⟩, fun s' e' => ?_⟩) hp
  subst e'
  refine wpAny_storeName_local (show (compEnvC scope cl C env).kindOf y = some .local from lookup_relabel_local hy) n2 (fun h3 n3 s3 => ⟨⟨rfl, rfl, rfl⟩, ?_, _, n3, ?_, ?_⟩) hp
  · exact (k1.any.trans (KX.same s2 (.head _))).trans (KX.same s3 (.head _))
  · simp [hxy]
  · simp
/-! ## zip of two lists -/
noncomputable def ZP (z TI TO i1 i2 l1 l2 : Addr) (xs ys : Array Value) (f0 : Value) (i : Nat) (h : Heap) : Prop :=
  IsZip h z TI TO f0 ∧ IsPair h TI (.ref i1) (.ref i2) ∧ (∃ a b, IsPair h TO a b) ∧ h.IsListIter i1 l1 i ∧ h.IsListIter i2 l2 i ∧ h.IsList l1 xs ∧ h.IsList l2 ys
theorem ZP.keep {z TI TO i1 i2 l1 l2 : Addr} {xs ys : Array Value} {f0 : Value} {i : Nat} {h h' : Heap} {U : List Addr} (x : ZP z TI TO i1 i2 l1 l2 xs ys f0 i h) (k : KX U h h') (hU : ∀ a ∈ U, a ∉ [z, TI, TO, i1, i2, l1, l2]) : ZP z TI TO i1 i2 l1 l2 xs ys f0 i h' := by
  have no : ∀ a ∈ [z, TI, TO, i1, i2, l1, l2], a ∉ U := fun a ha hu => hU a hu ha
  obtain ⟨a, b, ⟨u, v, c⟩, d, e, f, g⟩ := x
  exact ⟨k.keep _ _ (no z (by simp)) a, k.keep _ _ (no TI (by simp)) b, ⟨u, v, k.keep _ _ (no TO (by simp)) c⟩, listiter_keep d k (no i1 (by simp)), listiter_keep e k (no i2 (by simp)), list_keep f k (no l1 (by simp)), list_keep g k (no l2 (by simp))⟩
theorem ZP.lt {z TI TO i1 i2 l1 l2 : Addr} {xs ys : Array Value} {f0 : Value} {i : Nat} {h : Heap} (x : ZP z TI TO i1 i2 l1 l2 xs ys f0 i h) : ∀ a ∈ [z, TI, TO, i1, i2, l1, l2], a < h.objs.size := by
  obtain ⟨a, b, ⟨u, v, c⟩, d, e, f, g⟩ := x
  intro t ht
  simp only [List.mem_cons, List.not_mem_nil, or_false] at ht
  rcases ht with rfl | rfl | rfl | rfl | rfl | rfl | rfl
  · exact Heap.lt_size a
  · exact Heap.lt_size b
  · exact Heap.lt_size c
  · exact listiter_lt d
  · exact listiter_lt e
  · exact list_lt f
  · exact list_lt g
noncomputable def ZMid (z TI TO i1 i2 l1 l2 : Addr) (xs ys : Array Value) (i : Nat) (v : Value) (h : Heap) : Prop :=
  ∃ T x y, v = .ref T ∧ T ∉ [z, TI, TO, i1, i2, l1, l2] ∧ IsPair h T x y ∧ xs[i]? = some x ∧ ys[i]? = some y ∧ ZP z TI TO i1 i2 l1 l2 xs ys (rawInt T) (i + 1) h
theorem itr_zip {z TI TO i1 i2 l1 l2 : Addr} {xs ys : Array Value} (D : ZipApart z TI TO i1 i2 l1 l2) :
    ItrT (model prog w) (.ref z) [z, TI, TO, i1, i2, l1, l2] [z, TO, i1, i2] (min xs.size ys.size) (ZMid z TI TO i1 i2 l1 l2 xs ys) (ZP z TI TO i1 i2 l1 l2 xs ys .none) where
  next := fun A i h hh p => by
    have p' := p
    obtain ⟨a, b, ⟨u, v, c⟩, d, e, f, g⟩ := p
    have ne4 : ∀ c, c ∉ [z, TO, i1, i2] → c ≠ z ∧ c ≠ TO ∧ c ≠ i1 ∧ c ≠ i2 := fun c hc => ⟨fun e => hc (by simp [e]), fun e => hc (by simp [e]), fun e => hc (by simp [e]), fun e => hc (by simp [e])⟩
    by_cases hi : i < min xs.size ys.size
    · have h1 : i < xs.size := by lia
      have h2 : i < ys.size := by lia
      intro s e0
      subst e0
      refine wpAny_pyNext_zip_item D a b c d e f g (Array.getElem?_eq_getElem h1) (Array.getElem?_eq_getElem h2) fun h' z1 z2 z3 z4 z5 z6 z7 => ⟨⟨rfl, rfl, rfl⟩, ?_, .inr ⟨_, rfl, hi, s.heap.objs.size, xs[i], ys[i], rfl, ?_, z5, Array.getElem?_eq_getElem h1, Array.getElem?_eq_getElem h2, z1, ?_, ⟨_, _, z2⟩, z3, z4, ?_, ?_⟩⟩
      · exact ⟨by rw [z6]; lia, fun b o hb e => let ⟨n1, n2, n3, n4⟩ := ne4 b hb; z7 b o n1 n2 n3 n4 e⟩
      · exact fun hm => Nat.lt_irrefl _ (p'.lt _ hm)
      · exact z7 _ _ D.TIz D.TITO D.TIi1 D.TIi2 b
      · exact f.at fun o e => z7 _ o D.l1z D.l1TO D.l1i1 D.l1i2 e
      · exact g.at fun o e => z7 _ o D.l2z D.l2TO D.l2i1 D.l2i2 e
    · refine hw_ext fun s e0 => ?_
      subst e0
      refine wpAny_pyNext_zip_end hh D a b c d e f g ?_ fun h' k => ⟨⟨rfl, rfl, rfl⟩, fun sz => ⟨⟨sz, fun b o hb e => let ⟨n1, n2, n3, n4⟩ := ne4 b hb; k b o n1 n2 n3 n4 e⟩, .inl ⟨rfl, by lia⟩⟩⟩
      rcases Nat.lt_or_ge i xs.size with h1 | h1
      · exact .inr (Array.getElem?_eq_none (by lia))
      · exact .inl (Array.getElem?_eq_none h1)
  iter := fun A i h p s e => by subst e; exact wpAny_pyIter_zip p.1 ⟨Sm.refl s, rfl, rfl⟩
  stab := fun U hu i h h' k p => p.keep k hu
  wid := fun a ha => by simp only [List.mem_cons, List.not_mem_nil, or_false] at ha ⊢; rcases ha with e | e | e | e <;> simp [e]
theorem hw_zip {l1 l2 : Addr} {xs ys : Array Value} {Q : Value → Heap → Prop} (hl1 : h.IsList l1 xs) (hl2 : h.IsList l2 ys)
    (q : ∀ h', KX [] h h' → ZP (h.objs.size + 4) (h.objs.size + 2) (h.objs.size + 3) h.objs.size (h.objs.size + 1) l1 l2 xs ys .none 0 h' → ZipApart (h.objs.size + 4) (h.objs.size + 2) (h.objs.size + 3) h.objs.size (h.objs.size + 1) l1 l2 → Q (.ref (h.objs.size + 4)) h') : hw (model prog w) A (call (.type "zip") [.ref l1, .ref l2]) Q h := by
  intro s e
  subst e
  have a1 := list_lt hl1
  have a2 := list_lt hl2
  refine call_zip_2 hl1 hl2 fun h' z1 z2 z3 z4 z5 z6 z7 => ⟨⟨rfl, rfl, rfl⟩, q h' (KX.of_all (by lia) z7) ⟨z1, z2, ⟨_, _, z3⟩, z4, z5, hl1.at fun o e => z7 _ o e, hl2.at fun o e => z7 _ o e⟩ ?_⟩
  exact zipApart_new a1 a2
theorem asg_zip {x y : Str} {px py tp : Pos} {kk : Nat} {scope : Scope} {cl : List (Str × Addr)} {z TI TO i1 i2 l1 l2 : Addr} {xs ys : Array Value} {n : Nat} {h₂ : Heap} (hA : A.handled = none) (hkind : scope.kind = .function) (hx : scope.names.lookup x = some .local) (hy : scope.names.lookup y = some .local) (hxy : x ≠ y) (hz : z ∉ [TI, TO, i1, i2, l1, l2]) (hD : ∀ a ∈ [z, TI, TO, i1, i2, l1, l2], a < h₂.objs.size) :
    ∀ C i v h m, h₂.objs.size ≤ C → i < n → h.Ns C m → ZMid z TI TO i1 i2 l1 l2 xs ys i v h → hw (model prog w) A (letOwnedTupleGo (.Tuple [.Name x px, .Name y py] kk tp) (.ref z) v >>= fun _ => assign (.Tuple [.Name x px, .Name y py] kk tp) (compEnvC scope cl C env) v)
      (fun _ h' => KX (C :: [z, TO, i1, i2]) h h' ∧ ZP z TI TO i1 i2 l1 l2 xs ys .none (i + 1) h' ∧ ∃ lb m', h'.Ns C m' ∧ (∀ p ∈ lb, scope.names.lookup p.1 = some .local ∧ m' p.1 = some p.2) ∧ ∃ v1 v2, lb = [(x, v1), (y, v2)] ∧ xs[i]? = some v1 ∧ ys[i]? = some v2) h := by
  rintro C i v h m hC hi hm ⟨T, v1, v2, rfl, hT, hp, e1, e2, zp⟩
  have hCz : C ≠ z := fun e => Nat.lt_irrefl _ (Nat.lt_of_lt_of_le (hD z (.head _)) (e ▸ hC))
  refine hw_bind (fun s e => ?_)
  subst e
  refine wpAny_letOwnedTupleGo_zip zp.1 fun h1 z1 s1 => ⟨⟨rfl, rfl, rfl⟩, ?_⟩
  have k1 : KX [z] s.heap h1 := KX.same s1 (.head _)
  have tz : T ∉ [z] := fun hm => hT (by cases List.mem_singleton.mp hm; exact .head _)
  refine hw_mono (comp_pair hA hkind hx hy hxy (ns_keep hm k1 fun hm => hCz (List.mem_singleton.mp hm)) (.inl ⟨_, k1.keep _ _ tz hp, rfl, 0, rfl⟩)) fun _ h2 ⟨k2, m', n2, m1, m2⟩ => ⟨?_, ?_, [(x, v1), (y, v2)], m', n2, ?_, v1, v2, rfl, e1, e2⟩
  · exact (k1.mono fun a ha => by cases List.mem_singleton.mp ha; exact .tail _ (.head _)).trans (k2.mono fun a ha => by cases List.mem_singleton.mp ha; exact .head _)
  · obtain ⟨a, b, ⟨u, v, c⟩, d, e, f, g⟩ := zp
    have no : ∀ a ∈ [TI, TO, i1, i2, l1, l2], a ∉ [z] := fun a ha hm => hz (List.mem_singleton.mp hm ▸ ha)
    have zp1 : ZP z TI TO i1 i2 l1 l2 xs ys .none (i + 1) h1 := ⟨z1, k1.keep _ _ (no TI (by simp)) b, ⟨u, v, k1.keep _ _ (no TO (by simp)) c⟩, listiter_keep d k1 (no i1 (by simp)), listiter_keep e k1 (no i2 (by simp)), list_keep f k1 (no l1 (by simp)), list_keep g k1 (no l2 (by simp))⟩
    exact zp1.keep k2 fun a ha hm => by cases List.mem_singleton.mp ha; exact Nat.lt_irrefl _ (Nat.lt_of_lt_of_le (hD _ hm) hC)
  · intro p hp
    rcases List.mem_cons.mp hp with rfl | hp
    · exact ⟨hx, m1⟩
    · cases List.mem_singleton.mp hp
      exact ⟨hy, m2⟩
end
section
variable {prog : Program} {w : World} {A : Around} {mg mb : Str → Option Value} {X : List Addr} {B : Heap} {W : List Addr} {env : Env} {l : List (Str × Value)} {I : Heap → Prop} {h₁ h₂ : Heap}
/-- values, any target -/
theorem hs_mapG {elt iter target : Expr} {pos : Pos} {ifs : List Expr} {scope : Scope} {cl : List (Str × Addr)} {use : Option (Value → Sem Unit)} {Q : Value → Heap → Prop} {it : Value} {D wi : List Addr} {n : Nat} {Mid : Nat → Value → Heap → Prop} {P : Nat → Heap → Prop} {V : Nat → List (Str × Value) → Heap → Prop}
    (lc : List (Str × Value)) (p : Nat → Bool) (R : Nat → Value → Prop)
    (hA : A.handled = none) (S : St mg mb X B W env l I h₁) (hclos : closureFor scope env = pure cl)
    (hkind : scope.kind = .function) (hcell : (scope.names.all fun y => y.2 != .cell) = true) (hnames : (scope.names.all fun y => y.2 != .local || scope.names.lookup y.1 == some .local) = true)
    (hcl : ∀ p ∈ cl, env.cells.lookup p.1 = some p.2) (hlc : ∀ p ∈ lc, p ∈ l ∧ kOk env scope cl p.1 = true)
    (T : ItrT (model prog w) it D wi n Mid P) (p0 : P 0 h₂) (k12 : KX [] h₁ h₂) (hD : ∀ a ∈ D, a < h₂.objs.size) (hn : n ≤ sizeLine) (hwi : ∀ a ∈ wi, h₁.objs.size ≤ a)
    (asg : ∀ C i v h m, h₂.objs.size ≤ C → i < n → h.Ns C m → Mid i v h → hw (model prog w) A (letOwnedTupleGo target it v >>= fun _ => assign target (compEnvC scope cl C env) v) (fun _ h' => KX (C :: wi) h h' ∧ P (i + 1) h' ∧ ∃ lb m', h'.Ns C m' ∧ (∀ p ∈ lb, scope.names.lookup p.1 = some .local ∧ m' p.1 = some p.2) ∧ V i lb h') h)
    (turn : ∀ C i lb h, KX wi h₂ h → i < n → V i lb h → St mg mb [] h [] (compEnvC scope cl C env) (lb ++ lc) I h →
      tests (model prog w) A (compEnvC scope cl C env) ifs (fun ok h' => ok = p i ∧ if ok then hw (model prog w) A (eval elt (compEnvC scope cl C env)) (fun y h'' => KX [] h h'' ∧ R i y) h' else KX [] h h') h)
    (fin : ∀ C acc ys h, KX [] h₁ h → h₁.objs.size ≤ C → h₁.objs.size ≤ acc → C ≠ acc → h.IsList acc ys.toArray → (∃ m, h.Ns C m) → Paired R ((List.range n).filter p) ys → useC (model prog w) A use Q (.ref acc) C h) :
    hw (model prog w) A (newList []) (fun acc h₃ => hw (model prog w) A (newFunctionEnv scope env.globals cl [] env.qual none .none (some env)) (fun cenv h₄ =>
      hc (model prog w) A (.compStart (.ListComp elt [⟨target, iter, ifs, 0⟩] scope pos) 0 it acc { cenv with scope := relabel scope env }) (fun _ h => (∃ m, h.Ns cenv.locals m) ∧ useC (model prog w) A use Q acc cenv.locals h) h₄) h₃) h₂ := by
  have kx : ∀ {h}, KX (wi ++ []) h₂ h → KX wi h₂ h := fun k => k.mono fun a ha => by simpa using ha
  refine hs_comp (wt := []) lc (fun _ i ys _ => Paired R ((List.range i).filter p) ys) hA S hclos hkind hcell hnames hcl hlc T p0 k12 hD hn (fun a ha => .inl (hwi a ha)) (fun _ hm => nomatch hm) asg (fun _ _ _ _ => .nil) (fun _ _ _ _ _ _ j => j) ?_ ?_
  · intro C acc i lb ys h k hC ha hC' ha' hwi' hi hv j S'
    have t := turn C i lb h (kx k) hi hv S'
    have key : ∀ ok h', (ok = p i ∧ if ok = true then hw (model prog w) A (eval elt (compEnvC scope cl C env)) (fun y h'' => KX [] h h'' ∧ R i y) h' else KX [] h h') →
        (if ok = true then hw (model prog w) A (eval elt (compEnvC scope cl C env)) (fun y h'' => KX [] h h'' ∧ Paired R ((List.range (i + 1)).filter p) (ys ++ [y])) h' else KX [] h h' ∧ Paired R ((List.range (i + 1)).filter p) ys) := by
      rintro ok h' ⟨e, z⟩
      cases ok
      · simp only [Bool.false_eq_true, if_false] at z ⊢
        exact ⟨z, paired_skip j e.symm⟩
      · simp only [if_true] at z ⊢
        exact hw_mono z fun y h'' ⟨k, r⟩ => ⟨k, paired_filter j e.symm r⟩
    exact tests_mono t key
  · intro C acc ys h k hC ha hne hl hm hy j
    refine fin C acc ys h (k12.below (kx k) hwi) (Nat.le_trans k12.sz hC) (Nat.le_trans k12.sz ha) hne hl hm j
end

section
variable {prog : Program} {w : World} {A : Around} {h : Heap}
theorem hw_ilTo {value slice : Expr} {l sl : Addr} {ns : List Int} {y : Int} {t : Tok} {ops : List Value} {Q : Value → Heap → Prop} (hl : IL h l ns) (hs : h.IsSliceOf sl .none (.int y t) .none) (h0 : 0 ≤ y) (hsz : ns.length ≤ sizeLine)
    (q : ∀ a h', KX [] h h' → h.objs.size ≤ a → IL h' a (ns.take y.toNat) → Q (.ref a) h') (hsub : subscripted slice false (.ref l) (.ref sl) = operate ops (getItem (.ref l) (.ref sl))) : hw (model prog w) A (subscriptTail value slice (.ref l) (.ref sl)) Q h := by
  obtain ⟨vs, hl, hi⟩ := hl
  exact hw_slice hl hs .none (.int y t) .none (by simp) (by rw [List.size_toArray, hi.length]; exact hsz) (fun a h' k ha ha' L => q a h' k ha ⟨_, by rw [Array.toArray_toList]; exact L, slice_ints_uptoW hi h0⟩) hsub
theorem hw_ilFrom {value slice : Expr} {l sl : Addr} {ns : List Int} {y : Int} {t : Tok} {ops : List Value} {Q : Value → Heap → Prop} (hl : IL h l ns) (hs : h.IsSliceOf sl (.int y t) .none .none) (h0 : 0 ≤ y) (hsz : ns.length ≤ sizeLine)
    (q : ∀ a h', KX [] h h' → h.objs.size ≤ a → IL h' a (ns.drop y.toNat) → Q (.ref a) h') (hsub : subscripted slice false (.ref l) (.ref sl) = operate ops (getItem (.ref l) (.ref sl))) : hw (model prog w) A (subscriptTail value slice (.ref l) (.ref sl)) Q h := by
  obtain ⟨vs, hl, hi⟩ := hl
  exact hw_slice hl hs (.int y t) .none .none (by simp) (by rw [List.size_toArray, hi.length]; exact hsz) (fun a h' k ha ha' L => q a h' k ha ⟨_, by rw [Array.toArray_toList]; exact L, slice_ints_fromW hi h0⟩) hsub
end
theorem itr_ints {prog : Program} {w : World} {it l : Addr} {vs : List Value} {ns : List Int} (hne : it ≠ l) (hi : IntsAre vs ns) : Itr (model prog w) (.ref it) [it, l] [it] ns.length (fun i v _ => ∃ t, v = .int (ns.getD i 0) t) (LI it l vs) := by
  have T := itr_list (prog := prog) (w := w) (items := vs.toArray) hne
  rw [List.size_toArray, hi.length] at T
  exact { T with next := fun A i h hA p => hw_mono (T.next A i h hA p) fun r h' ⟨k, z⟩ => ⟨k, z.imp id fun ⟨v, e, z1, z2, z3⟩ => ⟨v, e, z1, by
    obtain ⟨n, t, e, e'⟩ := ints_val hi (by simpa using z2)
    exact ⟨t, by rw [e, List.getD, e']; rfl⟩, z3⟩⟩ }
theorem map_getD {α : Type} (f : Int → α) (xs : List Int) : (List.range xs.length).map (fun k => f (xs.getD k 0)) = xs.map f := by
  apply List.ext_getElem
  · simp
  · intro i h1 h2
    simp at h1
    simp [List.getD, h1]
section
variable {mg mb : Str → Option Value} {X : List Addr} {B : Heap} {W : List Addr} {env : Env} {l : List (Str × Value)} {I : Heap → Prop} {h h₁ : Heap}
theorem useC_storeIL {prog : Program} {w : World} {A : Around} {z : Str} {pz : Pos} {a acc C : Addr} {l' : List (Str × Value)} {ys : List Value} {ns : List Int} {Q : Value → Heap → Prop} (S₀ : St mg mb X B W env l I h₁) (k : KX [] h₁ h) (hC : h₁.objs.size ≤ C) (hac : h₁.objs.size ≤ acc) (hne : C ≠ acc) (hl0 : h.IsList acc ys.toArray) (hn : ∃ m, h.Ns C m) (hi : IntsAre ys ns) (ha : slotOf env z = some a) (hw' : a ∈ W) (hl : Dr z l l')
    (q : ∀ h', St mg mb X B W env ((z, .ref acc) :: l') (fun h => IL h acc ns ∧ I h) h' → Q .none h') : useC (model prog w) A (some (assign (.Name z pz) env)) Q (.ref acc) C h := by
  refine useC_store S₀ k hC hn ha hw' hl fun h' k' S' => q h' ?_
  have hna : acc ≠ a := fun e => Nat.lt_irrefl _ (Nat.lt_of_lt_of_le (S₀.wlt a hw') (e ▸ hac))
  have L : IL h' acc ns := ⟨ys, list_keep hl0 k' (fun hm => by
    rcases List.mem_cons.mp hm with e | hm
    · exact hna e
    · exact hne (List.mem_singleton.mp hm).symm), hi⟩
  exact S'.add L (Dep.il acc ns) fun b hb => by cases List.mem_singleton.mp hb; exact ⟨L.lt, S₀.new hac⟩
end
/-! ## Lists of lists of ints -/
noncomputable def LL (h : Heap) (R : Addr) (as : List Addr) (rows : List (List Int)) : Prop := PlainL h R (as.map Value.ref).toArray ∧ Paired (fun a r => IL h a r) as rows
theorem paired_impL {α β : Type} {F G : α → β → Prop} {l : List α} {m : List β} (h : ∀ a ∈ l, ∀ b, F a b → G a b) (p : Paired F l m) : Paired G l m := by
  induction p with
  | nil => exact .nil
  | cons x r ih => exact .cons (h _ (.head _) _ x) (ih fun a ha b => h a (.tail _ ha) b)
theorem paired_all {α β : Type} {F : α → β → Prop} {P : α → Prop} (h : ∀ a b, F a b → P a) {l : List α} {m : List β} (p : Paired F l m) : ∀ a ∈ l, P a := by
  induction p with
  | nil => exact fun _ ha => nomatch ha
  | cons x r ih => exact fun a ha => (List.mem_cons.mp ha).elim (fun e => e ▸ h _ _ x) (ih a)
theorem paired_keep {h h' : Heap} {U : List Addr} (k : KX U h h') {as : List Addr} {rows : List (List Int)} (hu : ∀ a ∈ as, a ∉ U) (p : Paired (fun a r => IL h a r) as rows) : Paired (fun a r => IL h' a r) as rows := paired_impL (fun a ha _ x => x.keep k (hu a ha)) p
theorem Dep.ll (R : Addr) (as : List Addr) (rows : List (List Int)) : Dep (R :: as) (fun h => LL h R as rows) := fun U hu _ _ k x =>
  ⟨plain_keep x.1 k fun hm => hu _ hm (.head _), paired_keep k (fun a ha hm => hu a hm (.tail _ ha)) x.2⟩
theorem paired_lt {h : Heap} {as : List Addr} {rows : List (List Int)} (p : Paired (fun a r => IL h a r) as rows) : ∀ a ∈ as, a < h.objs.size := paired_all (fun _ _ x => x.lt) p
theorem LL.lt {h : Heap} {R : Addr} {as : List Addr} {rows : List (List Int)} (x : LL h R as rows) : ∀ a ∈ R :: as, a < h.objs.size := fun a ha => (List.mem_cons.mp ha).elim (fun e => e ▸ plain_lt x.1) (paired_lt x.2 a)
theorem paired_get {α β : Type} {F : α → β → Prop} {as : List α} {bs : List β} (p : Paired F as bs) {i : Nat} {b : β} (e : bs[i]? = some b) : ∃ a, as[i]? = some a ∧ F a b := by
  induction p generalizing i with
  | nil => cases e
  | cons x r ih => cases i with
    | zero => cases e; exact ⟨_, rfl, x⟩
    | succ i => exact ih (i := i) e
section
variable {mg mb : Str → Option Value} {X : List Addr} {B : Heap} {W : List Addr} {env : Env} {l l' : List (Str × Value)} {I I' : Heap → Prop} {h h' : Heap}
/-- the frame's whole state told from now on -/
theorem St.rebase (S : St mg mb X B W env l I h) (U : List Addr) : St mg mb (W ++ U) h W env l I h :=
  { S with base := KX.refl _ _, wb := fun a ha => .inr (List.mem_append_left _ ha) }
theorem St.unbase {U : List Addr} (S : St mg mb X B W env l I h) (S' : St mg mb (W ++ U) h W env l' I' h') (hU : ∀ a ∈ U, B.objs.size ≤ a ∨ a ∈ X) : St mg mb X B W env l' I' h' :=
  { S' with base := S.base.above S'.base (fun a ha => (List.mem_append.mp ha).elim (S.wb a) (hU a)), wb := S.wb }
end
end

-- B13
section
open PySem PySem.W PyProof.Rows PySem.Calls

/-! ## Text -/
noncomputable def tx (cs : List Nat) : Str := ⟨cs.toArray⟩
theorem str_ext {a b : Str} (h : a.cps = b.cps) : a = b := by cases a; cases b; simp_all
theorem tx_add (a b : List Nat) : tx a ++ tx b = tx (a ++ b) := str_ext (by rw [Str.cps_append]; simp [tx])
theorem mulA_aux : ∀ (n : Nat) (acc : Array Nat), (List.replicate n (#[65] : Array Nat)).foldl (· ++ ·) acc = acc ++ (List.replicate n 65).toArray
  | 0, acc => by simp
  | n + 1, acc => by
    rw [List.replicate_succ, List.foldl_cons, mulA_aux n]
    apply Array.toList_inj.mp
    simp [List.replicate_succ]
theorem mulA (n : Int) : Txt.mul (Str.ofString "A") n = tx (List.replicate n.toNat 65) := by
  unfold Txt.mul
  split
  · rename_i h
    have : n.toNat = 0 := by lia
    rw [this]; rfl
  · split
    · rename_i h1 h
      have e : (Str.ofString "A").length = 1 := by decide
      rw [e] at h
      have : n = 1 := by simpa using h
      subst this; decide
    · have e : (Str.ofString "A").cps = #[65] := by decide
      rw [e]
      refine str_ext ?_
      show List.foldl _ _ _ = (List.replicate n.toNat 65).toArray
      rw [mulA_aux]; simp
theorem join_ones : ∀ cs : List Nat, Str.join Str.empty (cs.map fun c => tx [c]) = tx cs
  | [] => rfl
  | [c] => rfl
  | c :: d :: r => by
    have ih := join_ones (d :: r)
    rw [List.map_cons, List.map_cons] at *
    show tx [c] ++ Str.empty ++ Str.join Str.empty (tx [d] :: r.map fun c => tx [c]) = _
    rw [ih, Str.append_empty, tx_add]; rfl
section
variable {prog : Program} {w : World} {A : Around} {h : Heap} {env : Env}
theorem hw_smulA {n : Int} {t u : Tok} {Q : Value → Heap → Prop} (hn : -1000 ≤ n ∧ n ≤ 1000) (q : ∀ t, Q (.str (tx (List.replicate n.toNat 65)) t) h) : hw (model prog w) A (binaryOp .Mult (.str (Str.ofString "A") t) (.int n u)) Q h := fun s e => by
  have e1 : (Str.ofString "A").length = 1 := by decide
  refine SB.mul ⟨?_, fun h1 h2 => ?_, fun h1 h2 => ?_⟩ fun t' k => ⟨⟨rfl, rfl, rfl⟩, ?_⟩
  · simp; lia
  · rw [e1]
    have : (1 : Int) ≤ (2 ^ 63 - 1) / n := by
      rw [Int.le_ediv_iff_mul_le (by lia)]; lia
    lia
  · rw [e1]; simp [Builtin.Str.tooLong, sizeLine]; lia
  · rw [mulA]; exact e ▸ q _
theorem hw_sadd {a b : List Nat} {t u : Tok} {Q : Value → Heap → Prop} (hn : a.length + b.length ≤ 1000) (q : ∀ t, Q (.str (tx (a ++ b)) t) h) : hw (model prog w) A (binaryOp .Add (.str (tx a) t) (.str (tx b) u)) Q h := fun s e =>
  SB.add (fun t' k => ⟨⟨rfl, rfl, rfl⟩, by rw [tx_add]; exact e ▸ q _⟩) (by simp only [tx, Str.length, List.size_toArray, sizeLine]; lia)
theorem hw_sitem {value slice : Expr} {x : Str} {i : Int} {t u : Tok} {Q : Value → Heap → Prop} (h0 : 0 ≤ i) (h1 : i < x.length) (hl : x.length ≤ 1000) (q : ∀ t, Q (.str (tx [x.cps.getD i.toNat 0]) t) h)
    (hs : subscripted slice false (.str x t) (.int i u) = operate [.str x t, .int i u] (getItem (.str x t) (.int i u)) := by with_unfolding_all rfl)
    (ht : ∀ r, letTemporaryGo value (.str x t) r = pure () := by intro _; with_unfolding_all rfl) : hw (model prog w) A (subscriptTail value slice (.str x t) (.int i u)) Q h := fun s e =>
  item_str (by simp [fitsSsize]; lia) (by lia) h1 (fun _ => ⟨⟨rfl, rfl, rfl⟩, by rw [item_meets ⟨h0, h1⟩]; exact e ▸ q _⟩) hs ht
theorem hw_join {D : Addr} {items : Array Value} {cs : List Nat} {t : Tok} {Q : Value → Heap → Prop} (hl : h.IsList D items) (hi : StrsAre items.toList (cs.map fun c => tx [c])) (hn : cs.length ≤ 1000) (q : ∀ t, Q (.str (tx cs) t) h) : hw (model prog w) A (call (.builtin "str.join") [.str (Str.ofString "") t, .ref D]) Q h := fun s e => by
  subst e
  refine join_list hl hi ?_ fun t' k => ⟨⟨rfl, rfl, rfl⟩, ?_⟩
  · have e0 : (Str.ofString "").length = 0 := by decide
    have : ((cs.map fun c => tx [c]).map (·.length)).sum = cs.length := by
      clear hi hl q hn
      induction cs with
      | nil => rfl
      | cons c r ih => rw [List.map_cons, List.map_cons, List.sum_cons, ih, List.length_cons]; simp [tx, Str.length]; lia
    rw [this, e0]; lia
  · have : Txt.join (Str.ofString "") (cs.map fun c => tx [c]) = tx cs := by
      unfold Txt.join
      rw [StrLaws.glued_eq_join]
      exact join_ones cs
    rw [this]; exact q _
theorem hw_callWith1 {f : Value} {first : List Value} {e : Sem Value} {pos : Pos} {Q : Value → Heap → Prop} (x : hw (model prog w) A e (rqKeep1 (model prog w) A f first Q) h) : hw (model prog w) A (callWith pos f first [(false, e)] []) Q h := by
  intro s e'
  refine callWith_of (P := KeepOk (model prog w) f) rfl (fun h p => p) (Calls.evalArgs_plain ?_)
  refine Calls.spliced_cons (wpAny_mono (x s e') (fun v s₁ y => Calls.spliced_nil ?_) fun _ _ f => f)
  exact ⟨y.2.1, wpAny_mono (y.2.2 s₁ rfl) (fun _ s₂ z => ⟨y.1.trans z.1, z.2⟩) fun _ _ f => f⟩
theorem hw_method1 {o e : Expr} {name : Str} {apos pos : Pos} {T id : String} {Q : Value → Heap → Prop}
    (x : hw (model prog w) A (eval o env) (fun ov h₁ => (∀ s : Shared, s.heap = h₁ → s.TypeIs ov T) ∧ (∀ a, ov ≠ .ref a) ∧ hw (model prog w) A (callWith pos (.builtin id) [ov] [(false, eval e env)] []) Q h₁) h)
    (pa : PlainAttrs T) (slot : Slot T name id) (ty : typeOf (.builtin id) = pure (.type "method_descriptor"))
    (hbase : attributeBase o name env (eval o env) = eval o env) (hs : starEach [e] env = [(false, eval e env)]) (hline : (apos.endLine == pos.line) = true) : hw (model prog w) A (eval (.Call (.Attribute o name apos) [e] [] pos) env) Q h := fun s e' =>
  Call_method1 hbase hs hline (wpAny_mono (x s e') (fun ov s₁ z => ⟨T, id, pa, slot, ty, z.2.1 s₁ rfl, (fun a ea => absurd ea (z.2.2.1 a)), wpAny_mono (z.2.2.2 s₁ rfl) (fun _ s₂ y => ⟨z.1.trans y.1, y.2⟩) fun _ _ f => f⟩) fun _ _ f => f)
end
end

-- B14
section
open PySem PySem.W PyProof.Rows PySem.Calls
open Builtin Builtin._codecs
theorem fold_bytes : ∀ (cs : List Nat) (acc : Array UInt8), cs.foldl (fun acc y => acc ++ ([y.toUInt8] : List UInt8).toArray) acc = acc ++ (cs.map Nat.toUInt8).toArray
  | [], acc => by simp
  | c :: r, acc => by
    rw [List.foldl_cons, fold_bytes r]
    apply Array.toList_inj.mp
    simp
theorem loop12 {β : Type} (f : Nat → β → Sem (ForInStep β)) (b b' : β) (h1 : ∀ x, f x b = pure (.yield b')) (h2 : ∀ x, f x b' = pure (.done b')) : (forIn [:12] b f : Sem β) = pure b' := by
  rw [Std.Legacy.Range.forIn_eq_forIn_range']
  show (forIn (0 :: 1 :: List.range' 2 10 1) b f : Sem β) = pure b'
  rw [List.forIn_cons, h1]
  show (forIn (1 :: List.range' 2 10 1) b' f : Sem β) = pure b'
  rw [List.forIn_cons, h2]
  rfl
theorem encode_ascii (cs : List Nat) (hlen : cs.length = 12) (hb : ∀ c ∈ cs, c < 128) (self : Value) : encodeNarrow "str.encode" asciiCodec none self (tx cs) = pure (cs.map Nat.toUInt8).toArray := by
  have e1 : (tx cs).length = 12 := by simpa [tx, Str.length] using hlen
  have e2 : (tx cs).cps.size = 12 := e1
  have hex : (tx cs).cps.extract 0 (tx cs).cps.size = cs.toArray := by simp [tx]
  have hf : Array.findIdx? asciiCodec.bad cs.toArray = none := by
    rw [Array.findIdx?_eq_none_iff]
    intro x hx
    have := hb x (by simpa using hx)
    simp [asciiCodec]; lia
  unfold encodeNarrow
  rw [e1]
  show (forIn [:12] ((0 : Nat), (#[] : Array UInt8), ({} : Faults)) _ >>= _) = _
  rw [loop12 _ _ (12, (cs.map Nat.toUInt8).toArray, {}) (fun x => ?_) (fun x => ?_)]
  · rfl
  · have g0 : ∃ c, (tx cs).cps[0]? = some c ∧ asciiCodec.bad c = false := by
      cases cs with
      | nil => simp at hlen
      | cons c r => exact ⟨c, by simp [tx], by have := hb c (.head _); simp [asciiCodec]; lia⟩
    obtain ⟨c, g0, hc⟩ := g0
    rw [if_neg (by decide)]
    simp only [g0, hc, hex, hf]
    rw [if_pos (by decide)]
    have e3 : cs.toArray.extract 0 (none.getD cs.toArray.size) = cs.toArray := by simp
    rw [e3]
    have e4 : Array.foldl (fun acc y => acc ++ (asciiCodec.bytesOf y).toArray) #[] cs.toArray = (cs.map Nat.toUInt8).toArray := by
      rw [← Array.foldl_toList]
      show cs.foldl (fun acc y => acc ++ ([y.toUInt8] : List UInt8).toArray) #[] = _
      rw [fold_bytes]; simp
    rw [e4]
    simp [hlen]
  · have g0 : (tx cs).cps[12]? = none := by simp [tx, hlen]
    rw [if_neg (by simp [sizeLine]; lia)]
    simp only [g0]
theorem encodeRoad_ascii (id : String) (self : Value) (x : Str) (errors : Option Str) : encodeRoad id self x (Str.ofString "ascii") errors = (do mkBytes (← encodeNarrow id asciiCodec errors self x)) := by
  first | rfl | (unfold encodeRoad; rfl)
theorem encode_tree' (x : Str) (t u : Tok) : «str.encode» ⟨[.str x t, .str (Str.ofString "ascii") u], []⟩ = (do ret (← encodeRoad "str.encode" (.str x t) x (Str.ofString "ascii") none)) := by
  first | rfl | kernel_rfl
noncomputable def byt (cs : List Nat) : Array UInt8 := (cs.map Nat.toUInt8).toArray
section
variable {prog : Program} {w : World} {A : Around} {h : Heap} {env : Env}
theorem hw_encode {cs : List Nat} {t u : Tok} {Q : Value → Heap → Prop} (hlen : cs.length = 12) (hb : ∀ c ∈ cs, c < 128) (q : ∀ t, Q (.bytes (byt cs) t) h) : hw (model prog w) A (call (.builtin "str.encode") [.str (tx cs) t, .str (Str.ofString "ascii") u]) Q h := fun s e => by
  refine wpAny_call_entry F.slot_str_encode (typeIs_str s _ _) F.entry_str_encode ?_ (F.args_str_encode_2 _ _)
  rw [encode_tree', encodeRoad_ascii, encode_ascii cs hlen hb]
  refine wpAny_bind (wpAny_bind (wpAny_pure ?_))
  refine wpAny_mkBytes ?_
  exact wpAny_pure ⟨_, rfl, ⟨rfl, rfl, rfl⟩, e ▸ q _⟩
theorem hw_Try {body orelse : List Stmt} {h₀ : ExceptHandler} {hs : List ExceptHandler} {p : Pos} {Q : Flow → Heap → Prop} (x : hw (model prog w) A (execs body env) (rqSeq (model prog w) A env orelse Q) h) :
    hw (model prog w) A (exec (.Try body (h₀ :: hs) orelse [] p) env) Q h := fun s e => by
  refine wpAny_Try_except (wpAny_mono (x s e) (fun f s₁ z => ?_) fun _ _ f => f.elim)
  cases f with
  | next => exact wpAny_mono (z.2 s₁ rfl) (fun f s₂ y => ⟨z.1.trans y.1, y.2⟩) fun _ _ f => f
  | brk => exact z
  | cont => exact z
  | ret v => exact z
theorem hw_isF {x y : Value} {Q : Value → Heap → Prop} (hp : plainIs x y = true) (hn : x ≠ y) (q : Q (.bool false) h) : hw (model prog w) A (compareOp .Is x y) Q h := hw_is hp (by rw [beq_eq_false_iff_ne.mpr hn]; exact q)
theorem hw_isT {x : Value} {Q : Value → Heap → Prop} (hp : plainIs x x = true) (q : Q (.bool true) h) : hw (model prog w) A (compareOp .Is x x) Q h := hw_is hp (by rw [beq_self_eq_true]; exact q)
theorem hw_isntF {x : Value} {Q : Value → Heap → Prop} (hp : plainIs x x = true) (q : Q (.bool false) h) : hw (model prog w) A (compareOp .IsNot x x) Q h := hw_isnt hp (by rw [beq_self_eq_true]; exact q)
theorem hw_isi_str {x : Str} {u : Tok} {Q : Value → Heap → Prop} (q : Q (.bool true) h) : hw (model prog w) A (call (.builtin "isinstance") [.str x u, .type "str"]) Q h := fun s e => IsiPair.str_str ⟨Sm.refl s, e ▸ q⟩
end
end

-- B15
section
open PySem PySem.W PyProof.Rows PySem.Calls
/-! ## Growing lists of ints -/
noncomputable def PIL (h : Heap) (a : Addr) (ns : List Int) : Prop := ∃ vs : List Value, PlainL h a vs.toArray ∧ IntsAre vs ns
theorem PIL.il {h : Heap} {a : Addr} {ns : List Int} (x : PIL h a ns) : IL h a ns := let ⟨vs, p, i⟩ := x; ⟨vs, p.isList, i⟩
theorem PIL.keep {h h' : Heap} {U : List Addr} {a : Addr} {ns : List Int} (x : PIL h a ns) (k : KX U h h') (ha : a ∉ U) : PIL h' a ns := let ⟨vs, l, i⟩ := x; ⟨vs, plain_keep l k ha, i⟩
theorem Dep.pil (a : Addr) (ns : List Int) : Dep [a] (fun h => PIL h a ns) := fun _ hu _ _ k x => x.keep k fun hm => hu a hm (.head _)
section
variable {prog : Program} {w : World} {A : Around} {h : Heap} {env : Env}
theorem hw_Append {o elt : Expr} {apos pos : Pos} {Q : Value → Heap → Prop} {D : Addr}
    (x : hw (model prog w) A (eval o env) (fun ov h₁ => ov = .ref D ∧ (∃ its, PlainL h₁ D its) ∧ hw (model prog w) A (eval elt env) (fun y h₂ => ∃ ns n t, y = .int n t ∧ PIL h₂ D ns ∧ ns.length ≤ 1000 ∧ ∀ h', PIL h' D (ns ++ [n]) → Heap.SameBut D h₂ h' → Q .none h') h₁) h)
    (hbase : attributeBase o "append" env (eval o env) = eval o env) (hfew : ((backTo pos (starEach [elt] env)).all (fun x => !x.1) && (backToKw pos (keywordEach [] env)).all (fun x => x.1.isSome)
      && decide (([elt] : List Expr).length + ([] : List Keyword).length + (if ([] : List Keyword).isEmpty then 0 else 1) < 30)) = true)
    (hline : (apos.endLine == pos.line) = true) (htrees : backTo pos (starEach [elt] env) = [(false, eval elt env)]) : hw (model prog w) A (eval (.Call (.Attribute o "append" apos) [elt] [] pos) env) Q h := by
  refine hw_Call_append (hw_mono x fun ov h₁ z => ?_) hbase hfew hline htrees
  obtain ⟨e, ⟨its, hp⟩, y⟩ := z
  refine ⟨D, its, e, hp, hw_mono y fun v h₂ z => ?_⟩
  obtain ⟨ns, n, t, e2, ⟨vs, hp2, hi⟩, hlen, q⟩ := z
  refine ⟨vs.toArray, hp2, ?_, fun h' p' s' => ?_⟩
  · rw [List.size_toArray, hi.length]; simp only [sizeLine]; lia
  · subst e2
    exact q h' ⟨vs ++ [.int n t], by simpa using p', intsAre_append hi ints_one⟩ s'
theorem hw_bytes {l : Addr} {ns : List Int} {Q : Value → Heap → Prop} (hA : A.handled = none) (hl : IL h l ns) (hr : ∀ n ∈ ns, 0 ≤ n ∧ n < 256) (hlen : ns.length ≤ 1000) (q : ∀ h' t, KX [] h h' → Q (.bytes (byteArr ns) t) h') : hw (model prog w) A (call (.type "bytes") [.ref l]) Q h := by
  obtain ⟨vs, hl, hi⟩ := hl
  refine hw_ext fun s e => ?_
  subst e
  exact call_bytes_ints hl hi hr (by rw [hi.length]; simp only [sizeLine]; lia) hA fun h' t k hk => ⟨⟨rfl, rfl, rfl⟩, fun sz => q h' t (KX.of_all sz hk)⟩
theorem byteArr_get {ns : List Int} (hr : ∀ n ∈ ns, 0 ≤ n ∧ n < 256) {i : Nat} {c : UInt8} (hc : (byteArr ns)[i]? = some c) : (c.toNat : Int) = ns.getD i 0 := by
  unfold byteArr at hc
  simp only [List.getElem?_toArray, List.getElem?_map, Option.map_eq_some_iff] at hc
  obtain ⟨n, hn, rfl⟩ := hc
  have := hr n (List.mem_of_getElem? hn)
  rw [List.getD, hn]
  show ((n.toNat.toUInt8).toNat : Int) = n
  rw [Nat.toUInt8, UInt8.toNat_ofNat']
  lia
theorem itr_bytes {it : Addr} {ns : List Int} {t : Tok} (hr : ∀ n ∈ ns, 0 ≤ n ∧ n < 256) : Itr (model prog w) (.ref it) [it] [it] ns.length (fun i v _ => ∃ t, v = .int (ns.getD i 0) t) (fun i h => i ≤ ns.length ∧ KBw.IsBytesIter h it (byteArr ns) t i) := by
  have T := Itr.ofWalks (fun A hA => KBw.walks (prog := prog) (w := w) (A := A) hA it (byteArr ns) t) fun A i s Q E p q => KBw.pyIter_self p q
  rw [byteArr_size] at T
  exact { T with next := fun A i h hA p => hw_mono (T.next A i h hA p) fun r h' ⟨k, z⟩ => ⟨k, z.imp id fun ⟨v, e, z1, ⟨c, u, z2, z4⟩, z3⟩ => ⟨v, e, z1, ⟨u, by rw [z4, byteArr_get hr z2]⟩, z3⟩⟩ }
theorem hw_iter_bytes {ns : List Int} {t : Tok} {Q : Value → Heap → Prop} (q : ∀ it h', KX [] h h' → h.objs.size ≤ it → it < h'.objs.size → KBw.IsBytesIter h' it (byteArr ns) t 0 → Q (.ref it) h') : hw (model prog w) A (pyIter (.bytes (byteArr ns) t)) Q h := by
  intro s e
  subst e
  exact KBw.pyIter_bytes ⟨⟨rfl, rfl, rfl⟩, q _ _ (KX.push _ _ _) (Nat.le_refl _) (by rw [Heap.size_push]; lia) ⟨_, Heap.get?_push_size _ rfl, rfl, rfl⟩⟩
theorem byt_eq (cs : List Nat) : byt cs = byteArr (cs.map fun (c : Nat) => (c : Int)) := by
  unfold byt byteArr
  rw [List.map_map]
  rfl
end
end

-- B16
section
open PySem PySem.W PyProof.Rows PySem.Calls
section
variable {prog : Program} {w : World} {A : Around} {mg mb : Str → Option Value} {h : Heap} {f : Addr}
/-- a lambda without cells -/
theorem hw_lam {fd : FuncData} {o : Obj} {body : Expr} {args : List Value} {binds : List (Str × Value)} {I : Heap → Prop} {Q : Value → Heap → Prop} {n : Nat}
    (OK : Ok A (n + 1)) (G : Gd mg mb h) (ho : h.get? f = some o) (hd : o.data = .func fd) (hcd : h.CodeRec fd.code fd.qualname) (hbody : fd.body = .expr body)
    (hbind : bindArgs fd ⟨args, []⟩ = pure binds) (hcell : ∀ x ∈ fd.scope.names, x.2 ≠ .cell) (hloc : ∀ x ∈ binds, fd.scope.names.lookup x.1 = some .local) (hnd : (binds.map (·.1)).Nodup)
    (i : I h) (hi : DepIn h I) (hg : fd.globals = 3) (hb : fd.builtins = 0) (hclo : fd.closure = [])
    (x : ∀ A' h₁, Ok A' n → St mg mb [] h [h.objs.size] (callEnv fd h.objs.size f) binds I h₁ → hw (model prog w) A' (eval body (callEnv fd h.objs.size f)) Q h₁)
    (hco : fd.scope.isCoroutine = false) (hgen : fd.scope.isGenerator = false) (hk : fd.scope.kind = .function) : hw (model prog w) A (call (.ref f) args) Q h := by
  refine hw_call fun s e => ?_
  subst e
  refine kla_callFunE (by have := OK.dp; lia) ho hd hco hgen hbody hcd ?_
  rw [hbind, hclo]
  refine wpAny_pure (wpAny_newFunctionEnv hcell hloc (fun h₀ hns hsb => ?_) hk)
  have k : ∀ b o, s.heap.get? b = some o → h₀.get? b = some o := fun b o e => hsb.extBut b o (Nat.ne_of_lt (Heap.lt_size e)) (Heap.get?_push_of_some _ e)
  refine ⟨G.lim.fresh _ hsb, ?_⟩
  have sz : s.heap.objs.size < h₀.objs.size := hns.lt
  have kx : KX [] s.heap h₀ := KX.of_all (Nat.le_of_lt sz) k
  obtain ⟨D, hD, hlt⟩ := hi
  have S : St mg mb [] s.heap [s.heap.objs.size] (callEnv fd s.heap.objs.size f) binds I h₀ :=
    { g := G.keep kx (fun _ hm => nomatch hm), base := kx
      fm := ⟨⟨_, hns⟩, fun x c hx => (by simp only [callEnv, newEnv, hclo, List.lookup_nil] at hx; cases hx), fun p hp => .inl ⟨hloc p hp, _, hns, lookup_in _ p (by rw [List.map_reverse]; exact List.pairwise_reverse.mpr (hnd.imp Ne.symm)) (List.mem_reverse.mpr hp)⟩⟩
      imm := hD.call kx i
      es := ⟨hk, fun x c hx => (by simp only [callEnv, newEnv, hclo, List.lookup_nil] at hx; cases hx), fun x y c hx => (by simp only [callEnv, newEnv, hclo, List.lookup_nil] at hx; cases hx)⟩
      gl := hg, bl := hb
      hi := fun a ha => by cases List.mem_singleton.mp ha; exact .inl G.sz
      wb := fun a ha => by cases List.mem_singleton.mp ha; exact .inl (Nat.le_refl _)
      wlt := fun a ha => by cases List.mem_singleton.mp ha; exact sz
      dep := ⟨D, hD, fun a ha => Nat.lt_trans (hlt a ha) sz, fun a ha hm => by cases List.mem_singleton.mp ha; exact Nat.lt_irrefl _ (hlt _ hm)⟩ }
  refine kla_codeExpr ?_
  have y := x (A.deeper (callEnv fd s.heap.objs.size f)) h₀ OK.deeper S { s with heap := h₀, toks := s.toks + binds.length } rfl
  have ee : callEnv fd s.heap.objs.size f = newEnv fd.scope s.heap.objs.size fd.globals [] (fd.qualname ++ ".<locals>.") (some f) fd.code none fd.builtins := by unfold callEnv; rw [hclo]
  rw [ee] at y
  exact wpAny_mono y (fun v s' z => ⟨z.1, z.2⟩) fun _ _ z => z.elim
end
end

-- B17
section
open PySem PySem.W PyProof.Rows PySem.Calls
theorem among_app {pos : Pos} {a b : Nat} {c cv : Value} (l : List Value) (h : TriplesOk l) (e : codeAmong pos (l ++ [rawInt a, rawInt b, c]) = some cv) : codeAmong pos l = some cv ∨ cv = c := by
  fun_induction TriplesOk l with
  | case1 =>
    right
    simp only [List.nil_append, rawInt, codeAmong] at e
    split at e
    · cases e; rfl
    · cases e
  | case2 p t q u x rest ih =>
    simp only [List.cons_append, codeAmong] at e ⊢
    split at e
    · rename_i hc
      rw [if_pos hc]; exact .inl e
    · rename_i hc
      rw [if_neg hc]; exact ih h e
  | case3 => exact h.elim
theorem triples_app {a b : Nat} {c : Value} (l : List Value) (h : TriplesOk l) : TriplesOk (l ++ [rawInt a, rawInt b, c]) := by
  fun_induction TriplesOk l with
  | case1 => exact trivial
  | case2 p t q u x rest ih => exact ih h
  | case3 => exact h.elim
/-- law's table of codes -/
noncomputable def LT (ps : Array Value) (h : Heap) : Prop := CodeHd h 163 161 ∧ h.get? 161 = some (tabObj ps) ∧ TriplesOk ps.toList ∧ ∀ pos cv, codeAmong pos ps.toList = some cv → (∃ c : Addr, cv = .ref c ∧ 166 ≤ c) ∧ h.CodeRec cv "law.<locals>.<lambda>"
theorem codeRec_keep {h h' : Heap} {c : Addr} {q : Str} (x : h.CodeRec (.ref c) q) (k : ∀ o, h.get? c = some o → h'.get? c = some o) : h'.CodeRec (.ref c) q := by
  obtain ⟨c', o, vs, t, e, ho, r⟩ := x
  cases e
  exact ⟨_, o, vs, t, rfl, k _ ho, r⟩
section
variable {prog : Program} {w : World} {A : Around} {mg mb : Str → Option Value} {h : Heap} {env : Env}
end
end

-- B18
section
open PySem PySem.W PyProof.Rows PySem.Calls
/-! ## the rules as the small walker takes them: what it closes by itself stands behind -/
section
variable {mg mb : Str → Option Value} {X : List Addr} {B : Heap} {W : List Addr} {env : Env} {l : List (Str × Value)} {I : Heap → Prop} {h : Heap} {M : Model} {A : Around} {x : Str} {v : Value}
theorem e_var {p : Pos} {Q : Value → Heap → Prop} (q : Q v h) (S : St mg mb X B W env l I h := by assumption) (hm : l.lookup x = some v := by with_unfolding_all exact rfl) (hn : (x == ("__classdict__" : Str)) = false := by decide) (hd : (x == ("__debug__" : Str)) = false := by decide) :
    hw M A (eval (.Name x p) env) Q h := hs_var S (mem_of_lookup hm) q hn hd
theorem e_load {Q : Value → Heap → Prop} (q : Q v h) (S : St mg mb X B W env l I h := by assumption) (hm : l.lookup x = some v := by with_unfolding_all exact rfl) (hn : (x == ("__classdict__" : Str)) = false := by decide) :
    hw M A (loadName env x) Q h := hs_load S (mem_of_lookup hm) q hn
theorem e_glob {p : Pos} {Q : Value → Heap → Prop} (q : Q v h) (S : St mg mb X B W env l I h := by assumption) (hv : globTab.lookup x = some v := by with_unfolding_all exact rfl) (hx : env.kindOf x = some .globalImplicit := by with_unfolding_all exact rfl) (hd : (x == ("__debug__" : Str)) = false := by decide) :
    hw M A (eval (.Name x p) env) Q h := hs_globL S hv hx q hd
theorem e_bltn {p : Pos} {Q : Value → Heap → Prop} (q : Q v h) (S : St mg mb X B W env l I h := by assumption) (hv : bltTab.lookup x = some v := by with_unfolding_all exact rfl) (hx : env.kindOf x = some .globalImplicit := by with_unfolding_all exact rfl) (hd : (x == ("__debug__" : Str)) = false := by decide) :
    hw M A (eval (.Name x p) env) Q h := hs_bltnL S hv hx q hd
theorem e_put {l' : List (Str × Value)} {a : Addr} {Q : Unit → Heap → Prop} (q : ∀ h', Heap.SameBut a h h' → St mg mb X B W env ((x, v) :: l') I h' → Q () h') (S : St mg mb X B W env l I h := by assumption) (ha : slotOf env x = some a := by with_unfolding_all exact rfl) (hw' : a ∈ W := by with_unfolding_all (walk_at "memA"; first | done | fail))
    (hl : Dr x l l' := by with_unfolding_all (walk_at "dr"; first | done | fail)) : hw M A (storeName env x v) Q h := hs_put S ha hw' hl q
theorem e_kB {id : String} {P : Prop} (q : P) : KeepOk M (.builtin id) h ∧ P := ⟨keep_builtin _, q⟩
theorem e_kT {T : String} {P : Prop} (q : P) : KeepOk M (.type T) h ∧ P := ⟨keep_type _, q⟩
end
section
variable {prog : Program} {w : World} {A : Around} {h : Heap}
theorem e_isT {x : Value} {Q : Value → Heap → Prop} (q : Q (.bool true) h) (hp : plainIs x x = true := by with_unfolding_all exact rfl) : hw (model prog w) A (compareOp .Is x x) Q h := hw_isT hp q
theorem e_isF {x y : Value} {Q : Value → Heap → Prop} (q : Q (.bool false) h) (hp : plainIs x y = true := by with_unfolding_all exact rfl) (hn : x ≠ y := by decide) : hw (model prog w) A (compareOp .Is x y) Q h := hw_isF hp hn q
theorem e_isntF {x : Value} {Q : Value → Heap → Prop} (q : Q (.bool false) h) (hp : plainIs x x = true := by with_unfolding_all exact rfl) : hw (model prog w) A (compareOp .IsNot x x) Q h := hw_isntF hp q
theorem e_mod {a b : Int} {t u : Tok} {Q : Value → Heap → Prop} (q : ∀ t, Q (.int (a % b) t) h) (hb : 0 < b := by decide) : hw (model prog w) A (binaryOp .Mod (.int a t) (.int b u)) Q h := hw_mod hb q
theorem e_div {a b : Int} {t u : Tok} {Q : Value → Heap → Prop} (q : ∀ t, Q (.int (a / b) t) h) (hb : 0 < b := by decide) (hs : b < 1073741824 := by decide) : hw (model prog w) A (binaryOp .FloorDiv (.int a t) (.int b u)) Q h := hw_div hb hs q
end
section
variable {M : Model} {A : Around} {h : Heap} {env : Env}
theorem e_spl {e : Expr} {rest : List Expr} {pos : Pos} {Q : List Value → Heap → Prop} (x : hw M A (eval e env) (rqSpl M A env pos rest Q) h)
    (he : starEach (e :: rest) env = (false, eval e env) :: starEach rest env := by with_unfolding_all exact rfl) : hw M A (spliced (backTo pos (starEach (e :: rest) env))) Q h := hw_spl x he
theorem e_callWith {f : Value} {first : List Value} {e : Expr} {rest : List Expr} {pos : Pos} {Q : Value → Heap → Prop}
    (x : hw M A (spliced (backTo pos (starEach (e :: rest) env))) (rqKeep M A f first Q) h)
    (he : starEach (e :: rest) env = (false, eval e env) :: starEach rest env := by with_unfolding_all exact rfl) (hp : (backTo pos (starEach rest env)).any (·.1) = false := by with_unfolding_all exact rfl) :
    hw M A (callWith pos f first (backTo pos (starEach (e :: rest) env)) []) Q h := hw_callWith x he hp
theorem e_Assign {x : Str} {p' p : Pos} {value : Expr} {Q : Flow → Heap → Prop}
    (y : hw M A (eval value env) (rqThen M A (storeName env x) (rqNext Q)) h)
    (hs : swapsWith value (some (.Name x p')) p.line env = pure false := by with_unfolding_all exact rfl) : hw M A (exec (.Assign [.Name x p'] value p) env) Q h := hw_Assign y hs
end
end

-- C1
section
open PySem PySem.W PyProof.Rows
variable {prog : Program} {w : World} {A : Around} {mg mb : Str → Option Value} {h : Heap}

noncomputable def dstep : Nat → Int → List Int → List Int
  | 0, _, acc => acc
  | k + 1, n, acc => if acc = [] ∨ 0 < n then dstep k (n / 64) (n % 64 :: acc) else acc
noncomputable def numOf (x : Int) : Int := x / 3 % 4398046511104
noncomputable def digsOf (N : Int) : List Int := dstep 8 N []
noncomputable def digitsOf (x : Int) : List Int := List.replicate (x % 3).toNat 0 ++ digsOf (numOf x)

theorem dstep_two {acc : List Int} {m : Nat} {n : Int} (hm : acc.length + m = 8) (hm1 : 1 ≤ m) (hn1 : n < 64 ^ (m - 1)) (hc : acc = [] ∨ 0 < n) : 2 ≤ m := by
  rcases Nat.lt_or_ge m 2 with h | h
  · have : m = 1 := by lia
    subst this
    have h2 : acc ≠ [] := fun e => by subst e; simp at hm
    have := hc.resolve_left h2
    have : n < 1 := by simpa using hn1
    lia
  · exact h
theorem lawDigits {x : Int} {t : Tok} {Q : Value → Heap → Prop} {n : Nat} (OK : Ok A (n + 2)) (G : Gd mg mb h) (q : ∀ h' a, KX [] h h' → h.objs.size ≤ a → IL h' a (digitsOf x) → Q (.ref a) h') :
    hw (model prog w) A (call (.ref 132) [.int x t]) Q h := by
  refine hw_fn 13 12 23 rfl rfl [("x", .int x t)] ["x"] (fun _ => True) OK G (fun s e => BindsTo.of_eq rfl) (by rfl) (by rfl) (by decide) rfl trivial (DepIn.true _) ?_ rfl
  intro A' h₁ OK' S
  refine hw_cons ?_
  refine hw_two' OK'.hd ?_ rfl rfl
  repeat' walk_at "e"
  refine hw_pow (by decide) (by decide) (by decide) fun _ => ?_
  refine hw_mod (b := 64 ^ (7 : Int).toNat) (by decide) fun _ => ?_
  repeat' walk_at "e"
  refine hw_ilNew .nil (by decide) fun a h₂ k ha L => ?_
  have S := S.newIL k ha L
  intro h₃ k3
  have S := S.call k3
  repeat' walk_at "e"
  rename_i S
  have e7 : (64 : Int) ^ (7 : Int).toNat = 4398046511104 := by decide
  rw [e7] at S
  change St mg mb [] h [h.objs.size] _ ((_, Value.int (numOf x) _) :: _) _ _ at S
  have hN : 0 ≤ numOf x ∧ numOf x < 64 ^ 7 := by unfold numOf; constructor <;> lia
  generalize hNx : numOf x = N at *
  refine hw_While (fun m h' => ∃ n tn a acc, St mg mb [] h [h.objs.size] (callEnv (fdat 23 .none .none (.str "law_qw0003_01" 342) 131) h.objs.size 132) [("digits", .ref a), ("number", .int n tn), ("x", .int x t)] (fun h => IL h a acc ∧ True) h' ∧
    acc.length + m = 8 ∧ 0 ≤ n ∧ n < 64 ^ (m - 1) ∧ 1 ≤ m ∧ dstep m n acc = digsOf N) ?turn 8 ⟨N, _, a, [], S.sub (by walk_at "sub"), rfl, hN.1, hN.2, by decide, rfl⟩
  clear S L ha
  rintro m h' ⟨n', tn, a', acc, S, hm, hn0, hn1, hm1, hd⟩
  repeat' walk_at "e"
  refine hw_ilNew .nil (by decide) fun b h₄ k ha L => ?_
  have S := S.newIL k ha L
  refine hw_ilEq OK' S.imm.2.1 S.imm.1 ?_
  repeat' walk_at "e"
  refine hw_dec (fun hc => ?_) (fun hc => ?_)
  rotate_left
  repeat' walk_at "e"
  refine hw_dec (fun hc' => ?_) (fun hc' => ?_)
  rotate_left
  · -- the loop has ended
    repeat' walk_at "e"
    refine hw_ilNew ints_one (by show 1 ≤ sizeLine; decide) fun c h₅ k ha L => ?_
    have S := S.newIL k ha L
    repeat' walk_at "e"
    refine hw_ilMul S.imm.1 (by lia) (by lia) fun c h₆ k ha L => ?_
    have S := S.newIL k ha L
    repeat' walk_at "e"
    refine hw_ilAdd S.imm.1 S.imm.2.2.2.1 ?_ fun c h₇ k ha L => ?_
    · simp only [List.length_replicate, sizeLine]; lia
    · refine q h₇ c (S.base.trans k) (Nat.le_trans S.base.sz ha) ?_
      have : digitsOf x = List.replicate (x % 3).toNat 0 ++ acc := by
        unfold digitsOf
        rw [hNx, ← hd]
        obtain ⟨m', rfl⟩ : ∃ m', m = m' + 1 := ⟨m - 1, by lia⟩
        simp [dstep, hc, hc']
      rw [this]; exact L
  all_goals
    have hc2 : acc = [] ∨ 0 < n' := by first | exact .inl hc | exact .inr hc'
    repeat' walk_at "e"
    refine hw_two' OK'.hd ?_ rfl rfl
    repeat' walk_at "e"
    refine hw_ilNew ints_one (by show 1 ≤ sizeLine; decide) fun c h₅ k ha L => ?_
    have S := S.newIL k ha L
    repeat' walk_at "e"
    refine hw_ilAdd S.imm.1 S.imm.2.2.1 ?_ fun d h₆ k ha L => ?_
    · simp only [List.length_cons, List.length_nil, sizeLine]; lia
    have hnW := S.new ha
    have S := S.newIL k ha L
    repeat' walk_at "e"
    intro h₇ k7
    have S := S.call k7
    repeat' walk_at "e"
    rename_i S
    have hm2 := dstep_two hm hm1 hn1 hc2
    refine ⟨m - 1, by lia, _, _, _, _, S.onlyIL S.imm.1 hnW, ?_, by lia, ?_, ?_, ?_⟩
    · simp only [List.length_append, List.length_cons, List.length_nil]; lia
    · obtain ⟨m'', rfl⟩ : ∃ m'', m = m'' + 2 := ⟨m - 2, by lia⟩
      have e : (64 : Int) ^ (m'' + 1) = 64 ^ m'' * 64 := Int.pow_succ ..
      have : n' < 64 ^ m'' * 64 := by rw [← e]; exact hn1
      show n' / 64 < 64 ^ m''
      lia
    · lia
    · obtain ⟨m'', rfl⟩ : ∃ m'', m = m'' + 1 := ⟨m - 1, by lia⟩
      show dstep m'' (n' / 64) ([n' % 64] ++ acc) = _
      rw [← hd]
      simp only [dstep, if_pos hc2]
      rfl
end

-- C2
section
open PySem PySem.W PyProof.Rows PySem.Calls
variable {prog : Program} {w : World} {A : Around} {mg mb : Str → Option Value} {h : Heap}


theorem band64 {x : Int} (h0 : 0 ≤ x) (h1 : x < 256) : Builtin.bitAnd x 64 = x / 64 % 2 * 64 := by
  have : ∀ y : Fin 256, Builtin.bitAnd (y.val : Int) 64 = (y.val : Int) / 64 % 2 * 64 := by decide +kernel
  have z := this ⟨x.toNat, by lia⟩
  simpa [Int.toNat_of_nonneg h0] using z
theorem bor_add {v r : Int} (k : Nat) (hv : 0 ≤ v) (h0 : 0 ≤ r) (h1 : r < 2 ^ k) : Builtin.bitOr (v * 2 ^ k) r = v * 2 ^ k + r := by
  rw [bitOr_and]
  have : Builtin.bitAnd (v * 2 ^ k) r = 0 := by
    rw [bitAnd_pp (Int.mul_nonneg hv (Int.le_of_lt (Int.pow_pos (by decide)))) h0]
    obtain ⟨n, rfl⟩ := Int.eq_ofNat_of_zero_le hv
    obtain ⟨m, rfl⟩ := Int.eq_ofNat_of_zero_le h0
    have hm : m < 2 ^ k := by exact_mod_cast h1
    have e : ((n : Int) * 2 ^ k).toNat = n <<< k := by rw [Nat.shiftLeft_eq]; exact_mod_cast Int.toNat_natCast (n * 2 ^ k)
    rw [e, Int.toNat_natCast]
    have : n <<< k &&& m = 0 := by
      apply Nat.eq_of_testBit_eq
      intro i
      rw [Nat.testBit_and, Nat.testBit_shiftLeft, Nat.zero_testBit]
      by_cases hi : i < k
      · simp [Nat.not_le.mpr hi]
      · rw [Nat.testBit_lt_two_pow (Nat.lt_of_lt_of_le hm (Nat.pow_le_pow_right (by decide) (Nat.le_of_not_lt hi)))]; simp
    rw [this]; rfl
  lia
/-- what the six-bit digits of octets tell, from the first on -/
noncomputable def sixVal (os : List Int) (v : Int) : Int := os.foldl (fun v o => v * 64 + o % 64) v
theorem sixVal_bound : ∀ (os : List Int) (v : Int) (k : Nat), 0 ≤ v → v < 64 ^ k → 0 ≤ sixVal os v ∧ sixVal os v < 64 ^ (k + os.length)
  | [], v, k, h0, h1 => ⟨h0, h1⟩
  | o :: r, v, k, h0, h1 => by
    have e : (64 : Int) ^ (k + 1) = 64 ^ k * 64 := Int.pow_succ ..
    have := sixVal_bound r (v * 64 + o % 64) (k + 1) (by lia) (by rw [e]; lia)
    rw [show k + (o :: r).length = k + 1 + r.length by simp; lia]
    exact this
theorem sixVal_snoc (os : List Int) (o v : Int) : sixVal (os ++ [o]) v = sixVal os v * 64 + o % 64 := by simp [sixVal]
theorem parseVarint {it l : Addr} {vs : List Value} {os : List Int} {last : Int} {tail : List Int} {Q : Value → Heap → Prop} {n : Nat} (OK : Ok A (n + 1)) (G : Gd mg mb h) (hit : 166 ≤ it) (hne : it ≠ l)
    (hI : LI it l vs 0 h) (hL : IntsAre vs (os ++ last :: tail)) (hb : ∀ o ∈ os, (0 ≤ o ∧ o < 256) ∧ o / 64 % 2 = 1) (hlast : (0 ≤ last ∧ last < 256) ∧ last / 64 % 2 = 0) (hlen : os.length ≤ 9)
    (q : ∀ h' t, KX [it] h h' → LI it l vs (os.length + 1) h' → Q (.int (sixVal (os ++ [last]) 0) t) h') :
    hw (model prog w) A (call (.ref 28) [.ref it]) Q h := by
  refine hw_fn 0 0 2 rfl rfl [("iterator", .ref it)] ["iterator"] (LI it l vs 0) OK G (fun s e => BindsTo.of_eq rfl) (by rfl) (by rfl) (by decide) rfl hI (DepIn.li hI) ?_ rfl
  intro A' h₁ OK' S
  have S := S.moreX (X' := [it]) fun _ hm => nomatch hm
  have itlt := hI.lt it (.head _)
  have llt := hI.lt l (.tail _ (.head _))
  refine hw_cons ?_
  repeat' walk_at "e"
  have g0 : ∀ i n, (os ++ [last])[i]? = some n → ∃ t, vs[i]? = some (Value.int n t) := fun i n e => by
    refine ints_get hL ?_
    rw [show os ++ last :: tail = (os ++ [last]) ++ tail by simp, List.getElem?_append_left (by have := List.getElem?_eq_some_iff.mp e; exact this.1)]
    exact e
  have nx : ∀ {i n} {vars : List (Str × Value)} {h₁ : Heap} {Q : Value → Heap → Prop}, St mg mb [it] h [h.objs.size] (callEnv (fdat 2 .none .none (.str "cpy313.dis" 194) 27) h.objs.size 28) vars (LI it l vs i) h₁ → (os ++ [last])[i]? = some n →
      (∀ h₂ t, St mg mb [it] h [h.objs.size] (callEnv (fdat 2 .none .none (.str "cpy313.dis" 194) 27) h.objs.size 28) vars (LI it l vs (i + 1)) h₂ → Q (.int n t) h₂) → hw (model prog w) A' (call (.builtin "next") [.ref it]) Q h₁ := by
    intro i n vars h₁ Q S e q
    obtain ⟨t, ht⟩ := g0 i n e
    exact hs_next S ht hne hit (.inr (.head _)) (Nat.ne_of_gt itlt) (fun x c e => nomatch (show ([] : List (Str × Addr)).lookup x = some c from e)) ⟨fun hm => Nat.ne_of_lt itlt (List.mem_singleton.mp hm), fun hm => Nat.ne_of_lt llt (List.mem_singleton.mp hm)⟩ fun h' S' => q h' t S'
  obtain ⟨b0, hb0⟩ : ∃ b0, (os ++ [last])[0]? = some b0 := by cases os <;> simp
  refine nx S hb0 fun h₂ t S => ?_
  repeat' walk_at "e"
  rename_i S
  have e0 : Builtin.bitAnd b0 63 = sixVal ((os ++ [last]).take (0 + 1)) 0 := by
    rw [bitAnd_m6]
    cases os with
    | nil => simp at hb0; subst hb0; simp [sixVal]
    | cons o r => simp at hb0; subst hb0; simp [sixVal]
  rw [e0] at S
  refine hw_While (fun m h' => ∃ i b t t', m = os.length - i ∧ i ≤ os.length ∧ (os ++ [last])[i]? = some b ∧ St mg mb [it] h [h.objs.size] (callEnv (fdat 2 .none .none (.str "cpy313.dis" 194) 27) h.objs.size 28) [("val", .int (sixVal ((os ++ [last]).take (i + 1)) 0) t), ("b", .int b t'), ("iterator", .ref it)] (LI it l vs (i + 1)) h') ?turn os.length ⟨0, b0, _, _, by lia, by lia, hb0, S⟩
  clear S
  rintro m h' ⟨i, b, t, t', hm, hi, hbi, S⟩
  refine hw_isTrue_plain ?_
  repeat' walk_at "e"
  have hb2 : 0 ≤ b ∧ b < 256 := by
    rcases Nat.lt_or_ge i os.length with hlt | hge
    · rw [List.getElem?_append_left hlt] at hbi
      exact (hb b (List.mem_of_getElem? hbi)).1
    · have : i = os.length := by lia
      subst this
      simp at hbi; subst hbi; exact hlast.1
  rw [band64 hb2.1 hb2.2]
  refine hw_bne (fun hc => ?_) (fun hc => ?_)
  · have hlt : i < os.length := by
      rcases Nat.lt_or_ge i os.length with hlt | hge
      · exact hlt
      · have : i = os.length := by lia
        subst this
        simp at hbi; subst hbi
        rw [hlast.2] at hc; exact absurd rfl hc
    have vb := sixVal_bound ((os ++ [last]).take (i + 1)) 0 0 (by decide) (by decide)
    have lb : ((os ++ [last]).take (i + 1)).length = i + 1 := by rw [List.length_take, List.length_append]; simp; lia
    rw [lb] at vb
    have vb2 : sixVal ((os ++ [last]).take (i + 1)) 0 < 64 ^ 9 := Int.lt_of_lt_of_le vb.2 (by exact_mod_cast Nat.pow_le_pow_right (n := 64) (by decide) (show 0 + (i + 1) ≤ 9 by lia))
    repeat' walk_at "e"
    refine hw_ishl (by decide) (by decide) (by lia) fun _ => ?_
    repeat' walk_at "e"
    rename_i S
    obtain ⟨b1, hb1⟩ : ∃ b1, (os ++ [last])[i + 1]? = some b1 := ⟨_, List.getElem?_eq_getElem (by simp; lia)⟩
    refine nx S hb1 fun h₂ t S => ?_
    repeat' walk_at "e"
    rename_i S
    have ev : Builtin.bitOr (sixVal ((os ++ [last]).take (i + 1)) 0 * 2 ^ (6 : Int).toNat) (Builtin.bitAnd b1 63) = sixVal ((os ++ [last]).take (i + 1 + 1)) 0 := by
      rw [bitAnd_m6]
      show Builtin.bitOr (_ * 2 ^ 6) _ = _
      rw [bor_add 6 vb.1 (by lia) (by lia)]
      rw [List.take_add_one (i := i + 1), hb1]
      show _ = sixVal (_ ++ [b1]) 0
      rw [sixVal_snoc]; rfl
    rw [ev] at S
    refine' ⟨os.length - (i + 1), by lia, i + 1, b1, _, _, rfl, hlt, hb1, S.sub ?sb⟩
    case sb => walk_at "sub"
  · have : i = os.length := by
      rcases Nat.lt_or_ge i os.length with hlt | hge
      · rw [List.getElem?_append_left hlt] at hbi
        have := (hb b (List.mem_of_getElem? hbi)).2
        lia
      · lia
    subst this
    repeat' walk_at "e"
    have ee : (os ++ [last]).take (os.length + 1) = os ++ [last] := List.take_of_length_le (by simp)
    show Q (.int (sixVal ((os ++ [last]).take (os.length + 1)) 0) t) h'
    rw [ee]
    exact q _ _ S.base S.imm
end

-- C3
section
open PySem PySem.W PyProof.Rows PySem.Calls
variable {prog : Program} {w : World} {A : Around} {mg mb : Str → Option Value} {h : Heap}

noncomputable def flagsOf (n : Nat) : List Int := (List.range n).map fun (k : Nat) => if (k : Int) < (n : Int) - 1 then 64 else 0
noncomputable def rowOf (ds : List Int) (turn : Int) : List Int := (List.range ds.length).map fun (k : Nat) => ds.getD k 0 + (flagsOf ds.length).getD k 0 + ((k : Int) + turn) % 2 * 128
theorem lawRow {d : Addr} {ds : List Int} {u : Int} {t : Tok} {Q : Value → Heap → Prop} {n : Nat} (OK : Ok A (n + 2)) (G : Gd mg mb h) (hd : IL h d ds) (hn : ds.length ≤ 1000) (q : ∀ h' a, KX [] h h' → h.objs.size ≤ a → IL h' a (rowOf ds u) → Q (.ref a) h') :
    hw (model prog w) A (call (.ref 137) [.ref d, .int u t]) Q h := by
  refine hw_fnC 14 13 24 rfl rfl [("digits", .ref d), ("turn", .int u t)] ["digits", "turn"] _ (fun h => IL h d ds ∧ True) OK G rfl (by rfl) (by decide) rfl rfl (by decide) ⟨hd, trivial⟩ ((DepIn.il hd).and (DepIn.true _)) ?_ rfl
  intro A' h₁ OK' S
  refine hw_cons ?_
  refine hw_Assign ?_ rfl
  refine hw_ListComp rfl rfl rfl ?_ (fun _ => rfl)
  repeat' walk_at "e"
  refine hw_ilLen S.imm.1 (by lia) fun _ => ?_
  repeat' walk_at "e"
  refine hw_range fun r h₂ _ _ _ k2 hr hr' R => ?_
  have S := S.call k2
  refine hw_iter_range R (by lia) fun it h₃ k3 hi hi' R3 => ?_
  refine hs_mapV [("digits", .ref d)] (fun _ => true) (fun k v => ∃ t, v = .int (if (k : Int) < (ds.length : Int) - 1 then 64 else 0) t) OK'.hd S rfl rfl rfl rfl rfl (by walk_at "cl") (by walk_at "lc") itr_range ⟨Nat.zero_le _, R3⟩ k3 (fun a ha => by cases List.mem_singleton.mp ha; exact hi') (by simp only [sizeLine]; lia) (fun a ha => by cases List.mem_singleton.mp ha; exact hi) ?turn ?fin
  case turn =>
    rintro C i v h4 k4 hi4 ⟨t, rfl⟩ S
    refine ⟨rfl, ?_⟩
    repeat' walk_at "e"
    refine hw_ilLen S.imm.1 (by lia) fun _ => ?_
    repeat' walk_at "e"
    refine hw_dec (fun hc => ?_) (fun hc => ?_)
    · repeat' walk_at "e"
      exact ⟨KX.refl _ _, _, by rw [if_pos hc]⟩
    · repeat' walk_at "e"
      exact ⟨KX.refl _ _, _, by rw [if_neg hc]⟩
  case fin =>
    intro C acc ys h4 k4 hC hac hne hl hm pr
    refine useC_none fun h5 k5 => ?_
    rw [filter_true] at pr
    have S := S.gotIL k4 k5 hC hac hne hl (paired_ints (f := fun (k : Nat) => if (k : Int) < (ds.length : Int) - 1 then 64 else 0) pr)
    change St mg mb [] h _ _ _ (fun h => IL h acc (flagsOf ds.length) ∧ IL h d ds ∧ True) _ at S
    have fl : (flagsOf ds.length).length = ds.length := by simp [flagsOf]
    repeat' walk_at "e"
    rename_i S
    refine hw_ListComp rfl rfl rfl ?_ (fun _ => rfl)
    repeat' walk_at "e"
    refine hw_ilLen S.imm.2.1 (by lia) fun _ => ?_
    repeat' walk_at "e"
    refine hw_range fun r h₂ _ _ _ k2 hr hr' R => ?_
    have S := S.call k2
    refine hw_iter_range R (by lia) fun it h₃ k3 hi hi' R3 => ?_
    refine hs_mapV [("digits", .ref d), ("flags", .ref acc), ("turn", .int u t)] (fun _ => true) (fun k v => ∃ t, v = .int (ds.getD k 0 + (flagsOf ds.length).getD k 0 + ((k : Int) + u) % 2 * 128) t) OK'.hd S rfl rfl rfl rfl rfl (by walk_at "cl") (by walk_at "lc") itr_range ⟨Nat.zero_le _, R3⟩ k3 (fun a ha => by cases List.mem_singleton.mp ha; exact hi') (by simp only [sizeLine]; lia) (fun a ha => by cases List.mem_singleton.mp ha; exact hi) ?turn ?fin
    case turn =>
      rintro C i v h4 k4 hi4 ⟨t, rfl⟩ S
      refine ⟨rfl, ?_⟩
      repeat' walk_at "e"
      refine hw_ilAt S.imm.2.1 hi4 (by lia) fun _ => ?_
      repeat' walk_at "e"
      refine hw_ilAt S.imm.1 (by lia) (by lia) fun _ => ?_
      repeat' walk_at "e"
      refine hw_mul (.of_right (by decide)) fun _ => ?_
      repeat' walk_at "e"
      exact ⟨KX.refl _ _, _, rfl⟩
    case fin =>
      intro C acc ys h4 k4 hC hac hne hl hm pr
      refine useC_none fun h5 k5 => ?_
      rw [filter_true] at pr
      have hac' := Nat.le_trans S.base.sz hac
      have S := S.gotIL k4 k5 hC hac hne hl (paired_ints (f := fun (k : Nat) => ds.getD k 0 + (flagsOf ds.length).getD k 0 + ((k : Int) + u) % 2 * 128) pr)
      exact q h5 acc S.base hac' S.imm.1
end

-- C4
section
open PySem PySem.W PyProof.Rows PySem.Calls
variable {prog : Program} {w : World} {A : Around} {mg mb : Str → Option Value} {h : Heap}

theorem lawRead {r : Addr} {os : List Int} {last : Int} {Q : Value → Heap → Prop} {n : Nat} (OK : Ok A (n + 2)) (G : Gd mg mb h) (hr : IL h r (os ++ [last])) (hb : ∀ o ∈ os, (0 ≤ o ∧ o < 256) ∧ o / 64 % 2 = 1) (hlast : (0 ≤ last ∧ last < 256) ∧ last / 64 % 2 = 0) (hlen : os.length ≤ 9)
    (q : ∀ h' a, KX [] h h' → h.objs.size ≤ a → IL h' a [sixVal (os ++ [last]) 0, 7] → Q (.ref a) h') : hw (model prog w) A (call (.ref 152) [.ref r]) Q h := by
  refine hw_fn 17 16 27 rfl rfl [("row", .ref r)] ["row"] (fun h => IL h r (os ++ [last]) ∧ True) OK G (fun s e => BindsTo.of_eq rfl) (by rfl) (by rfl) (by decide) rfl ⟨hr, trivial⟩ ((DepIn.il hr).and (DepIn.true _)) ?_ rfl
  intro A' h₁ OK' S
  refine hw_cons ?_
  repeat' walk_at "e"
  refine hw_ilNew ints_one (by show 1 ≤ sizeLine; decide) fun c h₂ k ha L => ?_
  have S := S.newIL k ha L
  refine hw_ilAdd S.imm.2.1 S.imm.1 (by simp only [List.length_append, List.length_cons, List.length_nil, sizeLine]; lia) fun c h₃ k ha L => ?_
  have hcW := S.new ha
  have S := S.call k
  obtain ⟨vs, hl, hvs⟩ := L
  repeat' walk_at "e"
  refine hw_iter fun B hB => hw_iter_list hl fun it h₄ k4 hit hne hlt I4 L4 => ?_
  have li : LI it c vs 0 h₄ := ⟨I4, L4⟩
  have hit2 : h.objs.size ≤ it := Nat.le_trans S.base.sz hit
  have hi166 : 166 ≤ it := Nat.le_trans G.sz hit2
  have hnW : it ∉ [h.objs.size] ∧ c ∉ [h.objs.size] := ⟨S.new hit, hcW⟩
  have S := (S.call k4).only li (Dep.li it c vs 0) fun a ha' => ⟨li.lt a ha', ?_⟩
  rotate_left
  · rcases List.mem_cons.mp ha' with rfl | ha'
    · exact hnW.1
    · cases List.mem_singleton.mp ha'; exact hnW.2
  repeat' walk_at "e"
  rename_i S
  refine ⟨keep_tab S.g 0 rfl, ?_⟩
  refine parseVarint OK' S.g hi166 hne S.imm (by simpa using hvs) hb hlast hlen fun h₅ t k5 li5 => ?_
  have hloc : (callEnv (fdat 27 .none .none (.str "law_qw0003_01" 342) 151) h.objs.size 152).locals ∉ [it] := fun hm => hnW.1 (by rw [← List.mem_singleton.mp hm]; exact .head _)
  have S := S.turn k5 (fun a ha => by cases List.mem_singleton.mp ha; exact .inl hi166) (fun a ha => by cases List.mem_singleton.mp ha; exact .inl hit2) hloc (fun x c e => nomatch (show ([] : List (Str × Addr)).lookup x = some c from e)) li5 (Dep.li it c vs (os.length + 1)) fun a ha' => ⟨li5.lt a ha', by
    rcases List.mem_cons.mp ha' with rfl | ha'
    · exact hnW.1
    · cases List.mem_singleton.mp ha'; exact hnW.2⟩
  repeat' walk_at "e"
  refine hw_ilNew ints_one (by show 1 ≤ sizeLine; decide) fun a1 h₆ k6 ha1 L1 => ?_
  have ha1it : a1 ≠ it := fun e => Nat.lt_irrefl _ (Nat.lt_of_lt_of_le (li5.lt it (.head _)) (e ▸ ha1))
  have ha1W := S.new ha1
  have S := S.call k6
  have li6 := S.imm
  have S := S.own (P := fun h => IL h a1 [sixVal (os ++ [last]) 0] ∧ True) it hit2 (li6.lt it (.head _)) hi166 ⟨L1, trivial⟩ ((Dep.il a1 _).and Dep.true) fun b hb => by cases List.mem_singleton.mp hb; exact ⟨L1.lt, ha1W, ha1it⟩
  refine hw_ListComp rfl rfl rfl ?_ (fun _ => rfl)
  repeat' walk_at "e"
  have T := (itr_list (prog := prog) (w := w) (items := vs.toArray) hne).shift (os.length + 1)
  refine hw_mono (T.iter A' 0 h₆ li6) ?_
  rintro _ _ ⟨rfl, rfl⟩
  have hsz : vs.toArray.size - (os.length + 1) = 1 := by rw [List.size_toArray, hvs.length]; simp
  rw [hsz] at T
  refine hs_comp (wt := []) (V := fun i lb _ => ∃ v, lb = [((Str.ofString "octet"), v)] ∧ vs.toArray[os.length + 1 + i]? = some v) [] (fun _ i ys _ => Paired (fun i v => vs.toArray[os.length + 1 + i]? = some v) (List.range i) ys) OK'.hd S rfl rfl rfl rfl (by walk_at "cl") (by walk_at "lc") T.toT li6 (KX.refl _ _) (fun a ha => li6.lt a ha) (by decide) (fun a ha => .inr ⟨by cases List.mem_singleton.mp ha; exact .head _, fun y c e => nomatch (show ([] : List (Str × Addr)).lookup y = some c from e)⟩) (fun _ hm => nomatch hm) (asg_name rfl rfl T (fun a ha => li6.lt a ha)) (fun _ _ _ _ => .nil) (fun _ _ _ _ _ _ j => j) ?turn ?fin
  case turn =>
    rintro C acc i lb ys h k hC ha hC' ha' hwi' hi ⟨v, rfl, hv⟩ j S'
    simp only [tests, if_true]
    replace S' : St mg mb [] h [] _ [((Str.ofString "octet"), v)] _ h := S'
    repeat' walk_at "e"
    refine ⟨KX.refl _ _, ?_⟩
    rw [List.range_succ]
    exact j.snoc hv
  case fin =>
    intro C acc ys h₇ k7 hC hac hneC hl7 hm hy pr
    refine useC_none fun h8 k8 => ?_
    have L1' : IL h8 a1 [sixVal (os ++ [last]) 0] := (L1.keep k7 fun hm => ha1it (by simpa using hm)).keep k8 fun hm => Nat.lt_irrefl _ (Nat.lt_of_lt_of_le L1.lt (List.mem_singleton.mp hm ▸ hC))
    have e7 : IntsAre ys [7] := by
      cases pr with
      | cons hv r =>
        cases r
        obtain ⟨t, ht⟩ := ints_get hvs (i := os.length + 1) (n := 7) (by simp)
        rw [show vs.toArray[os.length + 1 + 0]? = vs[os.length + 1]? by simp, ht] at hv
        cases hv
        exact ints_one
    have L2 : IL h8 acc [7] := ⟨ys, list_keep hl7 k8 fun hm => hneC (List.mem_singleton.mp hm).symm, e7⟩
    refine hw_ilAdd L1' L2 (by show 2 ≤ sizeLine; decide) fun a h9 k9 ha9 L9 => ?_
    have kb : KX [] h h9 := by
      have k78 : KX [it, C] _ h9 := ((k7.mono fun a hm => by simpa using Or.inl (by simpa using hm)).trans (k8.mono fun a hm => by cases List.mem_singleton.mp hm; exact .tail _ (.head _))).trans k9.any
      exact S.base.above k78 fun a hm => by
        rcases List.mem_cons.mp hm with rfl | hm
        · exact .inl hit2
        · cases List.mem_singleton.mp hm; exact .inl (Nat.le_trans S.base.sz hC)
    refine q h9 a kb (Nat.le_trans ?_ ha9) L9
    exact Nat.le_trans S.base.sz (Nat.le_trans k7.sz k8.sz)
end

-- C5
section
open PySem PySem.W PyProof.Rows PySem.Calls
variable {prog : Program} {w : World} {A : Around} {mg mb : Str → Option Value} {h : Heap}

noncomputable def six (ns : List Int) : List Int := ns.map (· % 64)
noncomputable def noughtsOf (ds : List Int) : List Nat := (List.range ds.length).filter fun k => decide (ds.take (k + 1) = List.replicate (k + 1) 0)
noncomputable def strip (ds : List Int) : List Int := ds.drop (noughtsOf ds).length
noncomputable def unlikeOf (a b : List Int) : List Int := ((List.range (min a.length b.length)).filter fun i => a.getD i 0 != b.getD i 0).map fun i => a.getD i 0 - b.getD i 0
noncomputable def orderOf (ns ms : List Int) : Int :=
  if (strip (six ns)).length = (strip (six ms)).length then (unlikeOf (strip (six ns)) (strip (six ms))).headD 0 else ((strip (six ns)).length : Int) - (strip (six ms)).length
theorem lawOrder {o t : Addr} {ns ms : List Int} {Q : Value → Heap → Prop} {n : Nat} (OK : Ok A (n + 2)) (G : Gd mg mb h) (ho : IL h o ns) (ht : IL h t ms) (hn : ns.length ≤ 1000) (hm : ms.length ≤ 1000) (q : ∀ h' u, KX [] h h' → Q (.int (orderOf ns ms) u) h') :
    hw (model prog w) A (call (.ref 147) [.ref o, .ref t]) Q h := by
  refine hw_fnC 16 15 26 rfl rfl [("one", .ref o), ("two", .ref t)] ["one", "two"] _ (fun h => IL h o ns ∧ IL h t ms) OK G rfl (by rfl) (by decide) rfl rfl (by decide) ⟨ho, ht⟩ ((DepIn.il ho).and (DepIn.il ht)) ?_ rfl
  intro A' h₁ OK' S
  have hoW : ∀ a, a < h.objs.size → a ∉ h.objs.size :: (cellsFrom (h.objs.size + 1) (fscope (fstmt 26)).names []).map (·.2) := fun a ha hm => (S.wb a hm).elim (fun z => Nat.lt_irrefl _ (Nat.lt_of_lt_of_le ha z)) (fun z => nomatch z)
  refine hw_cons ?_
  repeat' walk_at "e"
  refine hw_newPlain (Nat.zero_le _) fun R h₂ k2 hR PR => ?_
  have hRW := S.new hR
  have hRB : h.objs.size ≤ R := Nat.le_trans S.base.sz hR
  have S := S.newP k2 (P := fun h => LL h R [] []) ⟨PR, .nil⟩ (Dep.ll R [] []) fun a ha => by cases List.mem_singleton.mp ha; exact ⟨hR, plain_lt PR⟩
  repeat' walk_at "e"
  rename_i S
  refine hw_For ?_ (fun _ => rfl)
  repeat' walk_at "e"
  refine hw_newList (by show 2 ≤ sizeLine; decide) fun L2 h₃ k3 hL2 hL2' PL2 => ?_
  have hL2W := S.new hL2
  refine hw_iter_list PL2 fun it h₄ k4 hit hne hit' I4 L4 => ?_
  have T := itr_list (prog := prog) (w := w) (items := #[Value.ref o, Value.ref t]) hne
  have hitB : h.objs.size ≤ it := Nat.le_trans S.base.sz (Nat.le_trans k3.sz hit)
  have hi166 : 166 ≤ it := Nat.le_trans G.sz hitB
  have hRit : R ≠ it := fun e => Nat.lt_irrefl _ (Nat.lt_of_lt_of_le (Nat.lt_of_lt_of_le S.imm.1.1.lt k3.sz) (e ▸ hit))
  have hitW : it ∉ h.objs.size :: (cellsFrom (h.objs.size + 1) (fscope (fstmt 26)).names []).map (·.2) := (S.call k3).new hit
  have oit : o ≠ it := fun e => Nat.lt_irrefl _ (Nat.lt_of_lt_of_le ho.lt (e ▸ hitB))
  have tit : t ≠ it := fun e => Nat.lt_irrefl _ (Nat.lt_of_lt_of_le ht.lt (e ▸ hitB))
  have L2R : L2 ≠ R := fun e => Nat.lt_irrefl _ (Nat.lt_of_lt_of_le S.imm.1.1.lt (e ▸ hL2))
  let rows (i : Nat) : List (List Int) := [strip (six ns), strip (six ms)].take i
  let W0 := h.objs.size :: (cellsFrom (h.objs.size + 1) (fscope (fstmt 26)).names []).map (·.2)
  have dOk : ∀ as : List Addr, (∀ a ∈ as, a ≠ it ∧ a ∉ W0) → ∀ a ∈ (R :: as) ++ ([o] ++ [t]), a ≠ it ∧ a ∉ W0 := by
    intro as has a ha
    simp only [List.mem_append, List.mem_cons, List.not_mem_nil, or_false] at ha
    rcases ha with (rfl | ha) | rfl | rfl
    · exact ⟨hRit, hRW⟩
    · exact has a ha
    · exact ⟨oit, hoW _ ho.lt⟩
    · exact ⟨tit, hoW _ ht.lt⟩
  have dep0 : ∀ as rs, Dep ((R :: as) ++ ([o] ++ [t])) (fun h => LL h R as rs ∧ IL h o ns ∧ IL h t ms) := fun as rs => (Dep.ll R as rs).and ((Dep.il o ns).and (Dep.il t ms))
  let J : Nat → Heap → Prop := fun i hh => ∃ as, (∀ a ∈ as, (a ≠ it ∧ a ∉ W0) ∧ a ≠ R) ∧ St mg mb [] h W0 (callEnvC (fdat 26 .none .none (.str "law_qw0003_01" 342) 146) h.objs.size 147) [("rows", .ref R), ("one", .ref o), ("two", .ref t)] (fun h => LL h R as (rows i) ∧ IL h o ns ∧ IL h t ms) hh
  have S4 := (S.call k3).call k4
  refine hc_For J OK'.hd T ?jst ?turn ?fin 0 (Nat.zero_le _) ⟨[], (fun _ hm => nomatch hm), S4⟩ ⟨I4, L4⟩
  case jst =>
    rintro i hh hh' hi k ⟨as, has, S⟩
    refine ⟨as, has, S.turn k (fun a ha => by cases List.mem_singleton.mp ha; exact .inl hi166) (fun a ha => by cases List.mem_singleton.mp ha; exact .inl hitB) (fun hm => hitW (by rw [← List.mem_singleton.mp hm]; exact .head _)) (fun x c e hm => ?_) ?_ (dep0 as (rows i)) fun a ha => ⟨?_, (dOk as (fun a ha => (has a ha).1) a ha).2⟩⟩
    · cases List.mem_singleton.mp hm
      exact hitW (List.mem_cons_of_mem _ (List.mem_map.mpr ⟨_, mem_of_lookup e, rfl⟩))
    · exact dep0 as (rows i) [it] (fun a ha hm => by cases List.mem_singleton.mp ha; exact (dOk as (fun a ha => (has a ha).1) _ hm).1 rfl) _ _ k S.imm
    · refine Nat.lt_of_lt_of_le ?_ k.sz
      obtain ⟨i1, i2, i3⟩ := S.imm
      rcases List.mem_append.mp ha with ha | ha
      · exact i1.lt a ha
      · rcases List.mem_append.mp ha with ha | ha
        · cases List.mem_singleton.mp ha; exact i2.lt
        · cases List.mem_singleton.mp ha; exact i3.lt
  case fin =>
    rintro hh ⟨as, has, S⟩
    change St mg mb [] h W0 _ _ (fun h => LL h R as [strip (six ns), strip (six ms)] ∧ IL h o ns ∧ IL h t ms) hh at S
    have h1l : (strip (six ns)).length ≤ 1000 := by simp only [strip, six, List.length_drop, List.length_map]; lia
    have h2l : (strip (six ms)).length ≤ 1000 := by simp only [strip, six, List.length_drop, List.length_map]; lia
    obtain ⟨x, y, rfl⟩ : ∃ x y, as = [x, y] := by
      obtain ⟨_, pr⟩ := S.imm.1
      cases pr with | cons a r => cases r with | cons b r => cases r; exact ⟨_, _, rfl⟩
    have get : ∀ {hh}, LL hh R [x, y] [strip (six ns), strip (six ms)] → hh.IsList R #[.ref x, .ref y] ∧ IL hh x (strip (six ns)) ∧ IL hh y (strip (six ms)) := by
      rintro hh ⟨p, pr⟩
      cases pr with | cons a r => cases r with | cons b r => exact ⟨p.isList, a, b⟩
    have hord : orderOf ns ms = if (strip (six ns)).length = (strip (six ms)).length then (unlikeOf (strip (six ns)) (strip (six ms))).headD 0 else ((strip (six ns)).length : Int) - (strip (six ms)).length := rfl
    generalize strip (six ns) = a at *
    generalize strip (six ms) = b at *
    repeat' walk_at "e"
    refine hw_item (get S.imm.1).1 (by decide) (by decide) rfl ?_
    repeat' walk_at "e"
    refine hw_ilLen (get S.imm.1).2.1 (by lia) fun _ => ?_
    repeat' walk_at "e"
    refine hw_item (get S.imm.1).1 (by decide) (by decide) rfl ?_
    repeat' walk_at "e"
    refine hw_ilLen (get S.imm.1).2.2 (by lia) fun _ => ?_
    repeat' walk_at "e"
    refine hw_bne (fun hc => ?_) (fun hc => ?_)
    · repeat' walk_at "e"
      refine hw_item (get S.imm.1).1 (by decide) (by decide) rfl ?_
      repeat' walk_at "e"
      refine hw_ilLen (get S.imm.1).2.1 (by lia) fun _ => ?_
      repeat' walk_at "e"
      refine hw_item (get S.imm.1).1 (by decide) (by decide) rfl ?_
      repeat' walk_at "e"
      refine hw_ilLen (get S.imm.1).2.2 (by lia) fun _ => ?_
      repeat' walk_at "e"
      rw [if_neg (by lia)] at hord
      rw [← hord]
      exact q _ _ S.base
    have hc' : a.length = b.length := by lia
    rw [if_pos hc'] at hord
    repeat' walk_at "e"
    refine hw_Assign_ListComp rfl rfl rfl rfl ?_ (fun _ => rfl)
    repeat' walk_at "e"
    refine hw_item (get S.imm.1).1 (by decide) (by decide) rfl ?_
    repeat' walk_at "e"
    refine hw_item (get S.imm.1).1 (by decide) (by decide) rfl ?_
    repeat' walk_at "e"
    obtain ⟨va, hla, hia⟩ := (get S.imm.1).2.1
    obtain ⟨vb, hlb, hib⟩ := (get S.imm.1).2.2
    refine hw_zip hla hlb fun h₂ k2 zp za => ?_
    refine hw_mono ((itr_zip (prog := prog) (w := w) za).iter A' 0 h₂ zp) ?_
    rintro _ _ ⟨rfl, rfl⟩
    have Tz := itr_zip (prog := prog) (w := w) (xs := va.toArray) (ys := vb.toArray) za
    have ea : va.toArray.size = a.length := by rw [List.size_toArray]; exact hia.length
    have eb : vb.toArray.size = b.length := by rw [List.size_toArray]; exact hib.length
    rw [ea, eb] at Tz
    refine hs_mapG [] (fun i => a.getD i 0 != b.getD i 0) (fun i v => ∃ t, v = .int (a.getD i 0 - b.getD i 0) t) OK'.hd S rfl rfl rfl rfl (by walk_at "cl") (by walk_at "lc") Tz zp k2 (fun a ha => zp.lt a ha) (by simp only [sizeLine]; lia) ?hwi (asg_zip OK'.hd rfl rfl rfl (by decide) ?hz (fun a ha => zp.lt a ha)) ?turnZ ?finZ
    case hwi =>
      intro a ha
      simp only [List.mem_cons, List.not_mem_nil, or_false] at ha
      rcases ha with rfl | rfl | rfl | rfl <;> simp
    case hz =>
      intro hm
      have e := za
      simp only [List.mem_cons, List.not_mem_nil, or_false] at hm
      rcases hm with e1 | e1 | e1 | e1 | e1 | e1
      · exact za.TIz e1.symm
      · exact za.TOz e1.symm
      · exact za.i1z e1.symm
      · exact za.i2z e1.symm
      · exact za.l1z e1.symm
      · exact za.l2z e1.symm
    case turnZ =>
      rintro C i lb h4 k4 hi4 ⟨v1, v2, rfl, e1, e2⟩ S
      obtain ⟨n1, t1, rfl, g1⟩ := ints_val hia (by simpa using e1)
      obtain ⟨n2, t2, rfl, g2⟩ := ints_val hib (by simpa using e2)
      have d1 : a.getD i 0 = n1 := by rw [List.getD, g1]; rfl
      have d2 : b.getD i 0 = n2 := by rw [List.getD, g2]; rfl
      simp only [d1, d2]
      replace S : St mg mb [] h4 [] _ [((Str.ofString "a"), .int n1 t1), ((Str.ofString "b"), .int n2 t2)] _ h4 := S
      refine tests_one ?_
      repeat' walk_at "e"
      refine ⟨rfl, ?_⟩
      refine hw_bne (fun _ => ?_) (fun _ => KX.refl _ _)
      repeat' walk_at "e"
      exact ⟨KX.refl _ _, _, rfl⟩
    intro C nn ys h8 k8 hC8 hac8 hneC8 hl8 hm8 pr8
    refine useC_storeIL S k8 hC8 hac8 hneC8 hl8 hm8 (paired_ints (f := fun i => a.getD i 0 - b.getD i 0) pr8) rfl (by walk_at "memA") (by walk_at "dr") fun h9 S => ?_
    change St mg mb [] h W0 _ _ (fun h => IL h nn (unlikeOf a b) ∧ _) h9 at S
    have hul : (unlikeOf a b).length ≤ 1000 := by
      refine Nat.le_trans ?_ h1l
      unfold unlikeOf
      rw [List.length_map]
      refine Nat.le_trans (List.length_filter_le ..) ?_
      rw [List.length_range]
      exact Nat.min_le_left _ _
    generalize unlikeOf a b = us at *
    repeat' walk_at "e"
    refine hw_ilNew .nil (by decide) fun c h₂ k ha L => ?_
    have S := S.newIL k ha L
    refine hw_ilNe OK' S.imm.2.1 S.imm.1 ?_
    repeat' walk_at "e"
    cases us with
    | nil =>
      refine Eq.mpr (if_neg (by simp)) ?_
      repeat' walk_at "e"
      have e0 : orderOf ns ms = 0 := hord
      rw [← e0]
      exact q _ _ S.base
    | cons u r =>
      refine Eq.mpr (if_pos (by simp)) ?_
      repeat' walk_at "e"
      refine hw_ilItem S.imm.2.1 (by decide) (by decide) rfl fun _ => ?_
      have e0 : orderOf ns ms = u := hord
      rw [← e0]
      exact q _ _ S.base
  case turn =>
    rintro i v hh hi hv ⟨as, has, S0⟩ p
    obtain ⟨r, xs, hvr, hrow, hrows, hlen⟩ : ∃ r xs, v = .ref r ∧ (∀ hh, (IL hh o ns ∧ IL hh t ms) → IL hh r xs) ∧ rows (i + 1) = rows i ++ [strip (six xs)] ∧ xs.length ≤ 1000 := by
      have hi2 : i < 2 := hi
      rcases (by lia : i = 0 ∨ i = 1) with rfl | rfl
      · exact ⟨o, ns, by simpa using hv.symm, fun _ z => z.1, rfl, hn⟩
      · exact ⟨t, ms, by simpa using hv.symm, fun _ z => z.2, rfl, hm⟩
    subst hvr
    have S := S0.rebase [R]
    repeat' walk_at "e"
    rename_i S
    refine hw_ListComp rfl rfl rfl ?_ (fun _ => rfl)
    repeat' walk_at "e"
    obtain ⟨vs, hl, hvs⟩ := hrow _ S.imm.2
    refine hw_iter_list hl fun it2 h5 k5 hit2 hne2 hit2' I5 L5 => ?_
    refine hs_mapV [] (fun _ => true) (fun k v => ∃ t, v = .int (xs.getD k 0 % 64) t) OK'.hd S rfl rfl rfl rfl rfl (by walk_at "cl") (by walk_at "lc") (itr_ints hne2 hvs) ⟨I5, L5⟩ k5 (fun a ha => LI.lt ⟨I5, L5⟩ a ha) (by simp only [sizeLine]; lia) (fun a ha => by cases List.mem_singleton.mp ha; exact hit2) ?turnA ?finA
    case turnA =>
      rintro C i v h4 k4 hi4 ⟨t, rfl⟩ S
      refine ⟨rfl, ?_⟩
      repeat' walk_at "e"
      exact ⟨KX.refl _ _, _, rfl⟩
    intro C d ys h6 k6 hC hac hneC hl6 hm6 pr
    refine useC_none fun h7 k7 => ?_
    rw [filter_true] at pr
    have pi := paired_ints (f := fun (k : Nat) => xs.getD k 0 % 64) pr
    rw [map_getD (· % 64)] at pi
    have S := S.gotIL k6 k7 hC hac hneC hl6 pi
    change St mg mb (W0 ++ [R]) hh W0 _ _ (fun h => IL h d (six xs) ∧ LL h R as (rows i) ∧ IL h o ns ∧ IL h t ms) _ at S
    have hlen6 : (six xs).length ≤ 1000 := by simpa [six] using hlen
    generalize six xs = ds at *
    repeat' walk_at "e"
    rename_i S
    refine hw_Assign_ListComp rfl rfl rfl rfl ?_ (fun _ => rfl)
    repeat' walk_at "e"
    refine hw_ilLen S.imm.1 (by lia) fun _ => ?_
    repeat' walk_at "e"
    refine hw_range fun rg h₂ _ _ _ k2 hr hr' Rg => ?_
    have S := S.call k2
    refine hw_iter_range Rg (by lia) fun it3 h₃ k3 hi3 hi3' R3 => ?_
    refine hs_mapV [("digits", .ref d)] (fun k => decide (ds.take (k + 1) = List.replicate (k + 1) 0)) (fun k v => ∃ t, v = .int (k : Int) t) OK'.hd S rfl rfl rfl rfl rfl (by walk_at "cl") (by walk_at "lc") itr_range ⟨Nat.zero_le _, R3⟩ k3 (fun a ha => by cases List.mem_singleton.mp ha; exact hi3') (by simp only [sizeLine]; lia) (fun a ha => by cases List.mem_singleton.mp ha; exact hi3) ?turnB ?finB
    case turnB =>
      rintro C i v h4 k4 hi4 ⟨t, rfl⟩ S
      refine tests_one ?_
      repeat' walk_at "e"
      intro sl h5 k5 hsl hsl' Sl
      have S := S.call k5
      refine hw_ilTo S.imm.1 Sl (by lia) (by simp only [sizeLine]; lia) (fun b h6 k6 hb L => ?_) rfl
      have S := S.newIL k6 hb L
      repeat' walk_at "e"
      refine hw_ilNew ints_one (by show 1 ≤ sizeLine; decide) fun c h7 k7 ha7 L7 => ?_
      have S := S.newIL k7 ha7 L7
      repeat' walk_at "e"
      refine hw_ilMul S.imm.1 (by lia) (by lia) fun e h8 k8 ha8 L8 => ?_
      have S := S.newIL k8 ha8 L8
      refine hw_ilEq OK' S.imm.2.2.1 S.imm.1 ?_
      repeat' walk_at "e"
      have ek : ((i : Int) + 1).toNat = i + 1 := by lia
      rw [ek]
      refine ⟨rfl, ?_⟩
      refine hw_dec (fun _ => ?_) (fun _ => S.base)
      repeat' walk_at "e"
      exact ⟨S.base, _, rfl⟩
    intro C nn ys h8 k8 hC8 hac8 hneC8 hl8 hm8 pr8
    refine useC_storeIL S k8 hC8 hac8 hneC8 hl8 hm8 (paired_ints (f := fun (k : Nat) => (k : Int)) pr8) rfl (by walk_at "memA") (by walk_at "dr") fun h9 S => ?_
    have hnl : ((noughtsOf ds).map fun (k : Nat) => (k : Int)).length = (noughtsOf ds).length := List.length_map ..
    have hnl2 : (noughtsOf ds).length ≤ 1000 := Nat.le_trans (List.length_filter_le ..) (by simpa using hlen6)
    change St mg mb (W0 ++ [_]) hh W0 _ _ (fun h => IL h nn ((noughtsOf ds).map fun (k : Nat) => (k : Int)) ∧ IL h d ds ∧ LL h _ as (rows i) ∧ IL h o ns ∧ IL h t ms) _ at S
    generalize (noughtsOf ds).map (fun (k : Nat) => (k : Int)) = nls at *
    repeat' walk_at "e"
    refine hw_Expr ?_
    refine hw_Call_append ?_ rfl rfl rfl rfl
    repeat' walk_at "e"
    refine ⟨_, _, rfl, S.imm.2.2.1.1, ?_⟩
    repeat' walk_at "e"
    refine hw_ilLen S.imm.1 (by lia) fun _ => ?_
    repeat' walk_at "e"
    intro sl h10 k10 hsl hsl' Sl
    have S := S.call k10
    refine hw_ilFrom S.imm.2.1 Sl (by lia) (by simp only [sizeLine]; lia) (fun b h11 k11 hb L => ?_) rfl
    have hbW := S.new hb
    have hbit := S.base.sz
    have S := S.newIL k11 hb L
    refine ⟨_, S.imm.2.2.2.1.1, ?_, fun h12 P12 s12 => ⟨rfl, ?_⟩⟩
    · have := S.imm.2.2.2.1.2.length
      have h2 : (rows i).length ≤ 2 := List.length_take_le' i _
      simp only [List.size_toArray, List.length_map, sizeLine]; lia
    repeat' walk_at "e"
    have kR : KX [R] h11 h12 := KX.same s12 (.head _)
    obtain ⟨j1, j2, j3, ⟨j4, j5⟩, j6, j7⟩ := S.imm
    have hRlt : R < hh.objs.size := S0.imm.1.1.lt
    have bR : b ≠ R := fun e => Nat.lt_irrefl _ (Nat.lt_of_lt_of_le hRlt (Nat.le_trans hbit (e ▸ hb)))
    have bit : b ≠ it := fun e => Nat.lt_irrefl _ (Nat.lt_of_lt_of_le (listiter_lt p.1) (Nat.le_trans hbit (e ▸ hb)))
    have oR : o ≠ R := fun e => Nat.lt_irrefl _ (Nat.lt_of_lt_of_le ho.lt (e ▸ hRB))
    have tR : t ≠ R := fun e => Nat.lt_irrefl _ (Nat.lt_of_lt_of_le ht.lt (e ▸ hRB))
    have no1 : ∀ a, a ≠ R → a ∉ [R] := fun a ha hm => ha (List.mem_singleton.mp hm)
    have imm : LL h12 R (as ++ [b]) (rows (i + 1)) ∧ IL h12 o ns ∧ IL h12 t ms := by
      refine ⟨⟨by simpa using P12, ?_⟩, j6.keep kR (no1 o oR), j7.keep kR (no1 t tR)⟩
      rw [hrows]
      refine (paired_keep kR (fun a ha => no1 a (has a ha).2) j5).snoc ?_
      have : (nls.length : Int).toNat = (noughtsOf ds).length := by lia
      rw [this] at j1
      exact j1.keep kR (no1 b bR)
    have has' : ∀ a ∈ as ++ [b], (a ≠ it ∧ a ∉ W0) ∧ a ≠ R := fun a ha => by
      rcases List.mem_append.mp ha with ha | ha
      · exact has a ha
      · cases List.mem_singleton.mp ha; exact ⟨⟨bit, hbW⟩, bR⟩
    have S' := S.turn kR (fun a ha => by cases List.mem_singleton.mp ha; exact .inl (Nat.le_trans G.sz hRB)) (fun a ha => .inr (List.mem_append_right _ ha)) (fun hm => hRW (by rw [← List.mem_singleton.mp hm]; exact .head _)) (fun x c e hm => hRW (by rw [← List.mem_singleton.mp hm]; exact List.mem_cons_of_mem _ (List.mem_map.mpr ⟨_, mem_of_lookup e, rfl⟩))) imm (dep0 (as ++ [b]) (rows (i + 1))) fun a ha => ⟨?_, (dOk _ (fun a ha => (has' a ha).1) a ha).2⟩
    · refine ⟨⟨as ++ [b], has', (S0.unbase S' fun a ha => by cases List.mem_singleton.mp ha; exact .inl hRB).sub (by walk_at "sub")⟩, ?_⟩
      refine T.stab (W0 ++ [R]) (fun a ha hm => ?_) (i + 1) hh h12 S'.base p
      rcases List.mem_append.mp ha with ha | ha
      · rcases List.mem_cons.mp hm with rfl | hm
        · exact hitW ha
        · cases List.mem_singleton.mp hm; exact hL2W ha
      · cases List.mem_singleton.mp ha
        rcases List.mem_cons.mp hm with e | hm
        · exact hRit e
        · exact L2R (List.mem_singleton.mp hm).symm
    · rcases List.mem_append.mp ha with ha | ha
      · exact imm.1.lt a ha
      · rcases List.mem_append.mp ha with ha | ha
        · cases List.mem_singleton.mp ha; exact imm.2.1.lt
        · cases List.mem_singleton.mp ha; exact imm.2.2.lt
end

-- C6
section
open PySem PySem.W PyProof.Rows PySem.Calls
variable {prog : Program} {w : World} {A : Around} {mg mb : Str → Option Value} {h : Heap}

noncomputable def alpha : Str := Str.ofString "ABCDEFGHIJKLMNOPQRSTUVWXYZabcdefghijklmnopqrstuvwxyz0123456789+/"
noncomputable def signOf (o : Int) : Nat := alpha.cps.getD (o % 64).toNat 0
noncomputable def signsOf (row : List Int) : List Nat := List.replicate (12 - row.length) 65 ++ row.map signOf
theorem paired_strs {f : Nat → Nat} {is : List Nat} {ys : List Value} (p : Paired (fun i v => ∃ t, v = Value.str (tx [f i]) t) is ys) : StrsAre ys ((is.map f).map fun c => tx [c]) := by
  induction p with
  | nil => exact .nil
  | cons x r ih => exact x.elim fun t e => e ▸ .cons _ t ih
set_option maxHeartbeats 1000000 in
theorem lawSigns {r : Addr} {ns : List Int} {Q : Value → Heap → Prop} {n : Nat} (OK : Ok A (n + 2)) (G : Gd mg mb h) (hr : IL h r ns) (hn : ns.length ≤ 12) (q : ∀ h' t, KX [] h h' → Q (.str (tx (signsOf ns)) t) h') :
    hw (model prog w) A (call (.ref 142) [.ref r]) Q h := by
  refine hw_fnC 15 14 25 rfl rfl [("row", .ref r)] ["row"] _ (fun h => IL h r ns ∧ True) OK G rfl (by rfl) (by decide) rfl rfl (by decide) ⟨hr, trivial⟩ ((DepIn.il hr).and (DepIn.true _)) ?_ rfl
  intro A' h₁ OK' S
  refine hw_cons ?_
  refine hw_Assign ?_ rfl
  refine hw_str fun tA => ?_
  refine hs_put S rfl (by walk_at "memA") (by walk_at "dr") fun h₂ s2 S => ?_
  change St mg mb [] h _ _ [("alphabet", .str alpha tA), ("row", .ref r)] _ _ at S
  have al0 : alpha.length = 64 := by decide +kernel
  obtain ⟨al, hal⟩ : ∃ al, al = alpha := ⟨_, rfl⟩
  rw [← hal] at S al0
  repeat' walk_at "e"
  refine hw_ilLen S.imm.1 (by lia) fun _ => ?_
  repeat' walk_at "e"
  refine hw_smulA (by lia) fun _ => ?_
  refine hw_method1 (T := "str") (id := "str.join") ?_ F.plainAttrs_str F.slot_str_join F.type_str_join rfl rfl rfl
  repeat' walk_at "e"
  refine ⟨fun s _ => typeIs_str s _ _, (fun a e => nomatch e), ?_⟩
  refine hw_callWith1 ?_
  refine hw_ListComp rfl rfl rfl ?_ (fun _ => rfl)
  repeat' walk_at "e"
  obtain ⟨vs, hl, hvs⟩ := S.imm.1
  refine hw_iter_list hl fun it h₂ k2 hit hne hit' I2 L2 => ?_
  refine hs_mapV [("alphabet", .str al tA)] (fun _ => true) (fun k v => ∃ t, v = .str (tx [signOf (ns.getD k 0)]) t) OK'.hd S rfl rfl rfl rfl rfl (by walk_at "cl") (by walk_at "lc") (itr_ints hne hvs) ⟨I2, L2⟩ k2 (fun a ha => LI.lt ⟨I2, L2⟩ a ha) (by simp only [sizeLine]; lia) (fun a ha => by cases List.mem_singleton.mp ha; exact hit) ?turn ?fin
  case turn =>
    rintro C i v h4 k4 hi4 ⟨t, rfl⟩ S
    refine ⟨rfl, ?_⟩
    repeat' walk_at "e"
    refine hw_sitem (by lia) (by rw [al0]; lia) (by lia) fun _ => ?_
    exact ⟨KX.refl _ _, _, by rw [hal]; rfl⟩
  intro C acc ys h4 k4 hC hac hneC hl4 hm4 pr
  refine useC_none fun h5 k5 => ?_
  rw [filter_true] at pr
  have ps := paired_strs (f := fun k => signOf (ns.getD k 0)) pr
  rw [map_getD signOf] at ps
  refine ⟨keep_builtin _, ?_⟩
  have hl5 := list_keep hl4 k5 fun hm => hneC (List.mem_singleton.mp hm).symm
  refine hw_join (cs := ns.map signOf) hl5 (by simpa using ps) (by simp; lia) fun _ => ?_
  refine hw_sadd (by simp; lia) fun _ => ?_
  have e : ((12 : Int) - (ns.length : Int)).toNat = 12 - ns.length := by lia
  rw [e]
  refine q h5 _ ?_
  exact (S.base.trans k4).trans (W := []) (KX.refl _ _) |>.above k5 fun a ha => by cases List.mem_singleton.mp ha; exact .inl (Nat.le_trans S.base.sz hC)
end

-- C7
section
open PySem PySem.W PyProof.Rows PySem.Calls
variable {prog : Program} {w : World} {A : Around} {mg mb : Str → Option Value} {h : Heap}
noncomputable def b64v (c : Int) : Int := if 65 ≤ c ∧ c ≤ 90 then c - 65 else if 97 ≤ c ∧ c ≤ 122 then c - 71 else if 48 ≤ c ∧ c ≤ 57 then c + 4 else if c = 43 then 62 else if c = 47 then 63 else 64
theorem hw_within {env : Env} {c : Int} {tc : Tok} {lo hi : Int} {k1 k2 : Nat} {p1 p2 p : Pos} {m : Expr} {whole : Sem Value} {Q : Bool → Heap → Prop} (em : ∀ {Q' : Value → Heap → Prop}, Q' (.int c tc) h → hw (model prog w) A (eval m env) Q' h) (q : Q (decide (lo ≤ c ∧ c ≤ hi)) h)
    (hm : behindInMarks .LtE (.Constant (.int hi) k2 p2) = false := by with_unfolding_all rfl) : hw (model prog w) A (isTrue (.Compare (.Constant (.int lo) k1 p1) [.LtE, .LtE] [m, .Constant (.int hi) k2 p2] p) env whole) Q h := by
  refine hw_isTrue_chain (hw_int fun t => em (hw_le (hw_truthy_bool ?_))) hm
  refine hw_dec (fun hc => hw_int fun t => hw_le (hw_truthy_bool ?_)) (fun hc => ?_)
  · rw [show decide (c ≤ hi) = decide (lo ≤ c ∧ c ≤ hi) by simp [hc]]; exact q
  · rw [show false = decide (lo ≤ c ∧ c ≤ hi) by simp [hc]]; exact q
theorem b64value {c : Int} {t : Tok} {Q : Value → Heap → Prop} {n : Nat} (OK : Ok A (n + 1)) (G : Gd mg mb h) (q : ∀ h' y t', KX [] h h' → y = b64v c → Q (.int y t') h') :
    hw (model prog w) A (call (.ref 77) [.int c t]) Q h := by
  refine hw_fn 5 5 12 rfl rfl [("c", .int c t)] ["c"] (fun _ => True) OK G (fun s e => BindsTo.of_eq rfl) (by rfl) (by rfl) (by decide) rfl trivial (DepIn.true _) ?_ rfl
  intro A' h₁ OK' S
  refine hw_cons ?_
  refine hw_If (hw_within (fun q => e_var q) (hw_dec (fun h1 => ?_) fun h1 => ?_))
  · repeat' walk_at "e"
    exact q _ _ _ S.base (if_pos h1).symm
  refine hw_nil (hw_cons (hw_If (hw_within (fun q => e_var q) (hw_dec (fun h2 => ?_) fun h2 => ?_))))
  · repeat' walk_at "e"
    exact q _ _ _ S.base ((if_neg h1).trans (if_pos h2)).symm
  refine hw_nil (hw_cons (hw_If (hw_within (fun q => e_var q) (hw_dec (fun h3 => ?_) fun h3 => ?_))))
  · repeat' walk_at "e"
    exact q _ _ _ S.base ((if_neg h1).trans ((if_neg h2).trans (if_pos h3))).symm
  have e3 : b64v c = if c = 43 then 62 else if c = 47 then 63 else 64 := (if_neg h1).trans ((if_neg h2).trans (if_neg h3))
  clear h1 h2 h3
  repeat' walk_at "e"
  refine hw_beq (fun h4 => ?_) fun h4 => ?_
  · repeat' walk_at "e"
    exact q _ _ _ S.base (e3.trans (if_pos h4)).symm
  repeat' walk_at "e"
  refine hw_beq (fun h5 => ?_) fun h5 => ?_
  · repeat' walk_at "e"
    exact q _ _ _ S.base (e3.trans ((if_neg h4).trans (if_pos h5))).symm
  repeat' walk_at "e"
  exact q _ _ _ S.base (e3.trans ((if_neg h4).trans (if_neg h5))).symm

theorem asciiBuffer {b : Array UInt8} {t : Tok} {Q : Value → Heap → Prop} {n : Nat} (OK : Ok A (n + 1)) (G : Gd mg mb h) (q : ∀ h', KX [] h h' → Q (.bytes b t) h') : hw (model prog w) A (call (.ref 56) [.bytes b t]) Q h := by
  refine hw_fn 2 2 8 rfl rfl [("data", .bytes b t)] ["data"] (fun _ => True) OK G (fun s e => BindsTo.of_eq rfl) (by rfl) (by rfl) (by decide) rfl trivial (DepIn.true _) ?_ rfl
  intro A' h₁ OK' S
  refine hw_cons ?_
  repeat' walk_at "e"
  refine hw_type (fun s _ => PySem.W.typeIs_bytes s _ _) (by decide) ?_
  repeat' walk_at "e"
  rename St mg mb _ _ _ _ _ _ _ => S
  exact q _ S.base
theorem buffer {b : Array UInt8} {t : Tok} {Q : Value → Heap → Prop} {n : Nat} (OK : Ok A (n + 1)) (G : Gd mg mb h) (q : ∀ h', KX [] h h' → Q (.bytes b t) h') : hw (model prog w) A (call (.ref 63) [.bytes b t]) Q h := by
  refine hw_fn 3 3 9 rfl rfl [("data", .bytes b t)] ["data"] (fun _ => True) OK G (fun s e => BindsTo.of_eq rfl) (by rfl) (by rfl) (by decide) rfl trivial (DepIn.true _) ?_ rfl
  intro A' h₁ OK' S
  refine hw_cons ?_
  repeat' walk_at "e"
  refine hw_type (fun s _ => PySem.W.typeIs_bytes s _ _) (by decide) ?_
  repeat' walk_at "e"
  rename St mg mb _ _ _ _ _ _ _ => S
  exact q _ S.base
theorem truthF {Q : Value → Heap → Prop} {n : Nat} (OK : Ok A (n + 1)) (G : Gd mg mb h) (q : ∀ h', KX [] h h' → Q (.bool false) h') : hw (model prog w) A (call (.ref 70) [.bool false]) Q h := by
  refine hw_fn 4 4 10 rfl rfl [("x", .bool false)] ["x"] (fun _ => True) OK G (fun s e => BindsTo.of_eq rfl) (by rfl) (by rfl) (by decide) rfl trivial (DepIn.true _) ?_ rfl
  intro A' h₁ OK' S
  refine hw_cons ?_
  repeat' walk_at "e"
  refine hw_type (fun s _ => PySem.typeIs_bool s _) (by decide) ?_
  repeat' walk_at "e"
  refine hw_isTrue_plain ?_
  repeat' walk_at "e"
  rename St mg mb _ _ _ _ _ _ _ => S
  exact q _ S.base
theorem bytesFrom {cs : List Nat} {t : Tok} {Q : Value → Heap → Prop} {n : Nat} (OK : Ok A (n + 1)) (G : Gd mg mb h) (hlen : cs.length = 12) (hb : ∀ c ∈ cs, c < 128) (q : ∀ h' t, KX [] h h' → Q (.bytes (byt cs) t) h') : hw (model prog w) A (call (.ref 36) [.str (tx cs) t]) Q h := by
  refine hw_fn 1 1 5 rfl rfl [("s", .str (tx cs) t)] ["s"] (fun _ => True) OK G (fun s e => BindsTo.of_eq rfl) (by rfl) (by rfl) (by decide) rfl trivial (DepIn.true _) ?_ rfl
  intro A' h₁ OK' S
  refine hw_cons ?_
  refine hw_If ?_
  refine hw_isTrue_plain ?_
  repeat' walk_at "e"
  refine hw_isi_str ?_
  repeat' walk_at "e"
  refine hw_method1 (T := "str") (id := "str.encode") ?_ F.plainAttrs_str F.slot_str_encode F.type_str_encode rfl rfl rfl
  repeat' walk_at "e"
  refine ⟨fun s _ => typeIs_str s _ _, (fun a e => nomatch e), ?_⟩
  refine hw_callWith1 ?_
  repeat' walk_at "e"
  refine hw_encode hlen hb fun _ => ?_
  exact q _ _ S.base
end

-- C8
section
open PySem PySem.W PyProof.Rows PySem.Calls
set_option maxHeartbeats 4000000
variable {prog : Program} {w : World} {A : Around} {mg mb : Str → Option Value} {h : Heap}


noncomputable def qstep (s : Int × Int × List Int) (v : Int) : Int × Int × List Int :=
  if s.1 = 0 then (1, v, s.2.2) else if s.1 = 1 then (2, v % 16, s.2.2 ++ [s.2.1 * 4 + v / 16]) else if s.1 = 2 then (3, v % 4, s.2.2 ++ [s.2.1 * 16 + v / 4]) else (0, 0, s.2.2 ++ [s.2.1 * 64 + v])
noncomputable def qrun (vs : List Int) : Int × Int × List Int := vs.foldl qstep (0, 0, [])
/-- what stands between two signs -/
noncomputable def QOk (s : Int × Int × List Int) : Prop := (s.1 = 0 ∧ s.2.1 = 0 ∨ s.1 = 1 ∧ 0 ≤ s.2.1 ∧ s.2.1 < 64 ∨ s.1 = 2 ∧ 0 ≤ s.2.1 ∧ s.2.1 < 16 ∨ s.1 = 3 ∧ 0 ≤ s.2.1 ∧ s.2.1 < 4) ∧ ∀ n ∈ s.2.2, 0 ≤ n ∧ n < 256
theorem qstep_ok {s : Int × Int × List Int} {v : Int} (hs : QOk s) (h0 : 0 ≤ v) (h1 : v < 64) : QOk (qstep s v) ∧ (qstep s v).2.2.length ≤ s.2.2.length + 1 ∧ (qstep s v).1 = (s.1 + 1) % 4 := by
  obtain ⟨q, l, o⟩ := s
  obtain ⟨hq, ho⟩ := hs
  simp only at hq ho
  have app : ∀ m : Int, 0 ≤ m ∧ m < 256 → ∀ n ∈ o ++ [m], 0 ≤ n ∧ n < 256 := fun m hm n hn => (List.mem_append.mp hn).elim (ho n) fun hn => by cases List.mem_singleton.mp hn; exact hm
  rcases hq with ⟨rfl, rfl⟩ | ⟨rfl, a, b⟩ | ⟨rfl, a, b⟩ | ⟨rfl, a, b⟩
  · exact ⟨⟨.inr (.inl ⟨rfl, h0, h1⟩), ho⟩, Nat.le_succ _, rfl⟩
  · exact ⟨⟨.inr (.inr (.inl ⟨rfl, by show 0 ≤ v % 16; lia, by show v % 16 < 16; lia⟩)), app (l * 4 + v / 16) (by lia)⟩, by simp [qstep], rfl⟩
  · exact ⟨⟨.inr (.inr (.inr ⟨rfl, by show 0 ≤ v % 4; lia, by show v % 4 < 4; lia⟩)), app (l * 16 + v / 4) (by lia)⟩, by simp [qstep], rfl⟩
  · exact ⟨⟨.inl ⟨rfl, rfl⟩, app (l * 64 + v) (by lia)⟩, by simp [qstep], rfl⟩
theorem qfold_ok : ∀ (vs : List Int) (s : Int × Int × List Int), QOk s → (∀ v ∈ vs, 0 ≤ v ∧ v < 64) → QOk (vs.foldl qstep s) ∧ (vs.foldl qstep s).2.2.length ≤ s.2.2.length + vs.length ∧ (vs.foldl qstep s).1 = (s.1 + vs.length) % 4
  | [], s, hs, _ => ⟨hs, Nat.le_refl _, by obtain ⟨hq, _⟩ := hs; simp; lia⟩
  | v :: r, s, hs, hv => by
    have a := qstep_ok hs (hv v (.head _)).1 (hv v (.head _)).2
    have b := qfold_ok r (qstep s v) a.1 fun u hu => hv u (.tail _ hu)
    refine ⟨b.1, ?_, ?_⟩
    · have := b.2.1; simp only [List.foldl_cons, List.length_cons]; lia
    · have := b.2.2; simp only [List.foldl_cons, List.length_cons]; rw [this, a.2.2]; lia
theorem q0_ok : QOk (0, 0, []) := ⟨.inl ⟨rfl, rfl⟩, fun _ hm => nomatch hm⟩
theorem b64v_nn {c : Int} (h : 0 ≤ c) : 0 ≤ b64v c := by
  unfold b64v
  (repeat' split) <;> lia
theorem a2b {ns : List Int} {t : Tok} {Q : Value → Heap → Prop} {n : Nat} (OK : Ok A (n + 2)) (G : Gd mg mb h) (hlen : ns.length = 12) (hr : ∀ n ∈ ns, (0 ≤ n ∧ n < 128) ∧ b64v n < 64)
    (q : ∀ h' t, KX [] h h' → Q (.bytes (byteArr (qrun (ns.map b64v)).2.2) t) h') :
    hw (model prog w) A (call (.ref 85) [.bytes (byteArr ns) t] [("strict_mode", .bool false)]) Q h := by
  refine hw_fn 6 6 13 rfl rfl [("data", .bytes (byteArr ns) t), ("strict_mode", .bool false)] ["data", "strict_mode"] (fun _ => True) OK G (fun s e => BindsTo.of_eq ?bind) (by rfl) (by rfl) (by decide) rfl trivial (DepIn.true _) ?_ rfl
  case bind => rfl
  intro A' h₁ OK' S
  refine hw_cons ?_
  repeat' walk_at "e"
  refine ⟨keep_tab S.g 2 rfl, ?_⟩
  refine asciiBuffer OK' S.g fun h₂ k2 => ?_
  have S := S.call k2
  repeat' walk_at "e"
  rename St mg mb _ _ _ _ _ _ _ => S
  refine ⟨keep_tab S.g 4 rfl, ?_⟩
  refine truthF OK' S.g fun h₃ k3 => ?_
  have S := S.call k3
  repeat' walk_at "e"
  rename St mg mb _ _ _ _ _ _ _ => S
  refine hw_newPlain (Nat.zero_le _) fun O h₄ k4 hO PO => ?_
  have hOW := S.new hO
  have hOB : h.objs.size ≤ O := Nat.le_trans S.base.sz hO
  have S := (S.call k4).only (P := fun h => PIL h O []) ⟨[], PO, .nil⟩ (Dep.pil O []) fun a ha => by cases List.mem_singleton.mp ha; exact ⟨plain_lt PO, hOW⟩
  repeat' walk_at "e"
  rename St mg mb _ _ _ _ _ _ _ => S
  refine hw_For ?_ (fun _ => rfl)
  repeat' walk_at "e"
  refine hw_iter_bytes fun it h₅ k5 hit hit' I5 => ?_
  have hitB : h.objs.size ≤ it := Nat.le_trans S.base.sz hit
  have hi166 : 166 ≤ it := Nat.le_trans G.sz hitB
  have hitW : it ∉ [h.objs.size] := S.new hit
  have hOit : O ≠ it := fun e => Nat.lt_irrefl _ (Nat.lt_of_lt_of_le S.imm.il.lt (e ▸ hit))
  have T := itr_bytes (prog := prog) (w := w) (it := it) (ns := ns) (t := t) fun n hn => ⟨(hr n hn).1.1, by have := (hr n hn).1.2; lia⟩
  let vals := ns.map b64v
  have hvl : vals.length = 12 := by simp [vals, hlen]
  have hvall : ∀ v ∈ vals, 0 ≤ v ∧ v < 64 := fun v hv => by
    obtain ⟨c, hc, rfl⟩ := List.mem_map.mp hv
    exact ⟨b64v_nn (hr c hc).1.1, (hr c hc).2⟩
  let env := callEnv (fdat 13 .none (.ref 78) (.str "binascii" 215) 84) h.objs.size 85
  let J : Nat → Heap → Prop := fun k hh => ∃ ti tp tl tq, St mg mb [] h [h.objs.size] env [("i", .int (k : Int) ti), ("pads", .int 0 tp), ("leftchar", .int (qrun (vals.take k)).2.1 tl), ("quad_pos", .int (qrun (vals.take k)).1 tq), ("out", .ref O), ("strict_mode", .bool false)] (fun h => PIL h O (qrun (vals.take k)).2.2) hh
  refine' hc_For J OK'.hd T ?jst ?turn ?fin 0 (Nat.zero_le _) ⟨_, _, _, _, (S.call k5).sub ?sb⟩ ⟨Nat.zero_le _, I5⟩
  case sb => walk_at "subA"
  case jst =>
    rintro k hh hh' hk kx ⟨ti, tp, tl, tq, S⟩
    refine ⟨ti, tp, tl, tq, S.turn kx (fun a ha => by cases List.mem_singleton.mp ha; exact .inl hi166) (fun a ha => by cases List.mem_singleton.mp ha; exact .inl hitB) (fun hm => hitW (by rw [← List.mem_singleton.mp hm]; exact .head _)) (fun x c e => nomatch (show ([] : List (Str × Addr)).lookup x = some c from e)) (S.imm.keep kx fun hm => hOit (List.mem_singleton.mp hm)) (Dep.pil O _) fun a ha => ?_⟩
    cases List.mem_singleton.mp ha
    exact ⟨Nat.lt_of_lt_of_le S.imm.il.lt kx.sz, hOW⟩
  case fin =>
    rintro hh ⟨ti, tp, tl, tq, S⟩
    have ee : vals.take ns.length = vals := List.take_of_length_le (by lia)
    rw [ee] at S
    have a := qfold_ok vals _ q0_ok hvall
    have hq0 : (qrun vals).1 = 0 := by have := a.2.2; rw [hvl] at this; exact this
    have hol : (qrun vals).2.2.length ≤ 12 := by have := a.2.1; rw [hvl] at this; simpa [qrun] using this
    have hon := a.1.2
    change ∀ n ∈ (qrun vals).2.2, 0 ≤ n ∧ n < 256 at hon
    change ∀ h' t, KX [] h h' → Q (.bytes (byteArr (qrun vals).2.2) t) h' at q
    generalize qrun vals = st at *
    obtain ⟨q0, l0, out⟩ := st
    simp only at *
    subst hq0
    repeat' walk_at "e"
    refine hw_beq (fun e => absurd e (by decide)) (fun _ => ?_)
    repeat' walk_at "e"
    refine hw_bne (fun e => absurd rfl e) (fun _ => ?_)
    repeat' walk_at "e"
    refine hw_bytes OK'.hd S.imm.il hon (by lia) fun h₂ t k2 => ?_
    exact q h₂ t (S.base.trans k2)
  case turn =>
    rintro k v hh hk ⟨tv, rfl⟩ ⟨ti, tp, tl, tq, S0⟩ p
    have hkn : k < ns.length := hk
    have hmem : ns.getD k 0 ∈ ns := by rw [List.getD, List.getElem?_eq_getElem hkn]; exact List.getElem_mem hkn
    have hc := hr _ hmem
    have hv : vals[k]? = some (b64v (ns.getD k 0)) := by simp [vals, List.getD, List.getElem?_eq_getElem hkn]
    have hnext : qrun (vals.take (k + 1)) = qstep (qrun (vals.take k)) (b64v (ns.getD k 0)) := by
      rw [List.take_add_one, hv]; simp [qrun]
    have hvs : ∀ v ∈ vals.take k, 0 ≤ v ∧ v < 64 := fun v hv => hvall v (List.mem_of_mem_take hv)
    have hok : QOk (qrun (vals.take k)) := (qfold_ok _ _ q0_ok hvs).1
    have h61 : ns.getD k 0 ≠ 61 := fun e => by have := hc.2; rw [e] at this; exact absurd this (by decide)
    have h0v : 0 ≤ b64v (ns.getD k 0) := b64v_nn hc.1.1
    have hlen2 : (qrun (vals.take k)).2.2.length ≤ 12 := by
      have a := (qfold_ok _ _ q0_ok hvs).2.1
      have b : (vals.take k).length ≤ 12 := Nat.le_trans (List.length_take_le' ..) (by lia)
      simp only [List.length_nil] at a
      exact Nat.le_trans a (by lia)
    generalize ns.getD k 0 = c at *
    generalize qrun (vals.take k) = st at *
    obtain ⟨q0, l0, out⟩ := st
    simp only at *
    have app : ∀ {vars : List (Str × Value)} {o1 : List Int} {m : Int} {h₁ h₂ : Heap}, St mg mb ([h.objs.size] ++ [O]) hh [h.objs.size] env vars (fun h => PIL h O o1) h₁ → PIL h₂ O (o1 ++ [m]) → Heap.SameBut O h₁ h₂ → St mg mb ([h.objs.size] ++ [O]) hh [h.objs.size] env vars (fun h => PIL h O (o1 ++ [m])) h₂ := by
      intro vars o1 m h₁ h₂ S P' s'
      have kx : KX [O] h₁ h₂ := KX.same s' (.head _)
      refine S.turn kx (fun a ha => by cases List.mem_singleton.mp ha; exact .inl (Nat.le_trans G.sz hOB)) (fun a ha => .inr (List.mem_append_right _ ha)) (fun hm => hOW (by rw [← List.mem_singleton.mp hm]; exact .head _)) (fun x c e => nomatch (show ([] : List (Str × Addr)).lookup x = some c from e)) P' (Dep.pil O _) fun a ha => ?_
      cases List.mem_singleton.mp ha
      exact ⟨P'.il.lt, hOW⟩
    have finish : ∀ {q1 l1 : Int} {o1 : List Int} {h₂ : Heap} {ti tp tl tq : Tok}, qstep (q0, l0, out) (b64v c) = (q1, l1, o1) → St mg mb ([h.objs.size] ++ [O]) hh [h.objs.size] env [("i", .int ((k : Int) + 1) ti), ("pads", .int 0 tp), ("leftchar", .int l1 tl), ("quad_pos", .int q1 tq), ("out", .ref O), ("strict_mode", .bool false)] (fun h => PIL h O o1) h₂ → J (k + 1) h₂ ∧ k + 1 ≤ ns.length ∧ KBw.IsBytesIter h₂ it (byteArr ns) t (k + 1) := by
      intro q1 l1 o1 h₂ ti tp tl tq e S'
      rw [e] at hnext
      refine ⟨⟨ti, tp, tl, tq, ?_⟩, ?_⟩
      · rw [hnext]
        exact S0.unbase S' fun a ha => by cases List.mem_singleton.mp ha; exact .inl hOB
      · refine T.stab ([h.objs.size] ++ [O]) (fun a ha hm => ?_) (k + 1) hh h₂ S'.base p
        cases List.mem_singleton.mp hm
        rcases List.mem_append.mp ha with ha | ha
        · exact hitW ha
        · exact hOit (List.mem_singleton.mp ha).symm
    have S := S0.rebase [O]
    repeat' walk_at "e"
    refine hw_beq (fun e => absurd e h61) (fun _ => ?_)
    repeat' walk_at "e"
    rename St mg mb _ _ _ _ _ _ _ => S
    refine ⟨keep_tab S.g 5 rfl, ?_⟩
    refine b64value OK' S.g fun h₂ y t' k2 hy => ?_
    subst hy
    have S := S.call k2
    repeat' walk_at "e"
    rename St mg mb _ _ _ _ _ _ _ => S
    refine hw_dec (fun e => absurd e (by lia)) (fun _ => ?_)
    repeat' walk_at "e"
    refine hw_isTrue_plain ?_
    repeat' walk_at "e"
    refine hw_bne (fun e => absurd rfl e) (fun _ => ?_)
    repeat' walk_at "e"
    rename St mg mb _ _ _ _ _ _ _ => S
    refine hw_beq (fun e0 => ?_) (fun n0 => ?_)
    · subst e0
      repeat' walk_at "e"
      rename St mg mb _ _ _ _ _ _ _ => S
      refine' finish rfl (S.sub ?sb0)
      case sb0 => walk_at "subA"
    repeat' walk_at "e"
    refine hw_beq (fun e1 => ?_) (fun n1 => ?_)
    · subst e1
      repeat' walk_at "e"
      rename St mg mb _ _ _ _ _ _ _ => S
      have hl : 0 ≤ l0 ∧ l0 < 64 := by have := hok.1; simp only at this; lia
      refine hw_Expr ?_
      refine hw_Append (D := O) ?_ rfl rfl rfl rfl
      repeat' walk_at "e"
      refine ⟨rfl, let ⟨vs, p, _⟩ := S.imm; ⟨_, p⟩, ?_⟩
      repeat' walk_at "e"
      refine hw_shl (by decide) (by decide) (by lia) fun _ => ?_
      repeat' walk_at "e"
      refine hw_shr (by decide) fun _ => ?_
      repeat' walk_at "e"
      refine ⟨_, _, _, rfl, S.imm, by lia, fun h₅ P5 s5 => ⟨rfl, ?_⟩⟩
      have S := app S P5 s5
      have e1 : Builtin.bitOr (l0 * 2 ^ (2 : Int).toNat) (b64v c / 2 ^ (4 : Int).toNat) = l0 * 4 + b64v c / 16 := bor_add 2 hl.1 (by show 0 ≤ b64v c / 16; lia) (by show b64v c / 16 < 4; lia)
      rw [e1] at S
      repeat' walk_at "e"
      rename St mg mb _ _ _ _ _ _ _ => S
      rw [bitAnd_m4] at S
      refine' finish rfl (S.sub ?sb1)
      case sb1 => walk_at "subA"
    repeat' walk_at "e"
    refine hw_beq (fun e2 => ?_) (fun n2 => ?_)
    · subst e2
      repeat' walk_at "e"
      rename St mg mb _ _ _ _ _ _ _ => S
      have hl : 0 ≤ l0 ∧ l0 < 16 := by have := hok.1; simp only at this; lia
      refine hw_Expr ?_
      refine hw_Append (D := O) ?_ rfl rfl rfl rfl
      repeat' walk_at "e"
      refine ⟨rfl, let ⟨vs, p, _⟩ := S.imm; ⟨_, p⟩, ?_⟩
      repeat' walk_at "e"
      refine hw_shl (by decide) (by decide) (by lia) fun _ => ?_
      repeat' walk_at "e"
      refine hw_shr (by decide) fun _ => ?_
      repeat' walk_at "e"
      refine ⟨_, _, _, rfl, S.imm, by lia, fun h₅ P5 s5 => ⟨rfl, ?_⟩⟩
      have S := app S P5 s5
      have e1 : Builtin.bitOr (l0 * 2 ^ (4 : Int).toNat) (b64v c / 2 ^ (2 : Int).toNat) = l0 * 16 + b64v c / 4 := bor_add 4 hl.1 (by show 0 ≤ b64v c / 4; lia) (by show b64v c / 4 < 16; lia)
      rw [e1] at S
      repeat' walk_at "e"
      rename St mg mb _ _ _ _ _ _ _ => S
      rw [bitAnd_m2] at S
      refine' finish rfl (S.sub ?sb2)
      case sb2 => walk_at "subA"
    · have hq : q0 = 3 := by have := hok.1; simp only at this; lia
      subst hq
      repeat' walk_at "e"
      rename St mg mb _ _ _ _ _ _ _ => S
      have hl : 0 ≤ l0 ∧ l0 < 4 := by have := hok.1; simp only at this; lia
      refine hw_Expr ?_
      refine hw_Append (D := O) ?_ rfl rfl rfl rfl
      repeat' walk_at "e"
      refine ⟨rfl, let ⟨vs, p, _⟩ := S.imm; ⟨_, p⟩, ?_⟩
      repeat' walk_at "e"
      refine hw_shl (by decide) (by decide) (by lia) fun _ => ?_
      repeat' walk_at "e"
      refine ⟨_, _, _, rfl, S.imm, by lia, fun h₅ P5 s5 => ⟨rfl, ?_⟩⟩
      have S := app S P5 s5
      have e1 : Builtin.bitOr (l0 * 2 ^ (6 : Int).toNat) (b64v c) = l0 * 64 + b64v c := bor_add 6 hl.1 h0v (by show b64v c < 64; lia)
      rw [e1] at S
      repeat' walk_at "e"
      rename St mg mb _ _ _ _ _ _ _ => S
      refine' finish rfl (S.sub ?sb3)
      case sb3 => walk_at "subA"
end

-- C9
section
open PySem PySem.W PyProof.Rows PySem.Calls
variable {prog : Program} {w : World} {A : Around} {mg mb : Str → Option Value} {h : Heap}

/-- the octets that twelve signs tell -/
noncomputable def octOf (cs : List Nat) : List Int := (qrun ((cs.map fun (c : Nat) => (c : Int)).map b64v)).2.2
theorem b64decode {cs : List Nat} {t : Tok} {Q : Value → Heap → Prop} {n : Nat} (OK : Ok A (n + 3)) (G : Gd mg mb h) (hlen : cs.length = 12) (hb : ∀ c ∈ cs, c < 128 ∧ b64v (c : Int) < 64) (q : ∀ h' t, KX [] h h' → Q (.bytes (byteArr (octOf cs)) t) h') :
    hw (model prog w) A (call (.ref 109) [.str (tx cs) t]) Q h := by
  have hdef := G.at_ _ (List.mem_of_getElem? (i := 21) (by rfl : addrTab[21]? = some (102, _)))
  refine hw_fn 9 9 17 rfl rfl [("s", .str (tx cs) t), ("altchars", .none), ("validate", .bool false)] ["s", "altchars", "validate"] (fun _ => True) OK G (fun s e => ?bind) (by rfl) (by rfl) (by decide) rfl trivial (DepIn.true _) ?_ rfl
  case bind =>
    subst e
    exact BindsTo.of_defaults rfl hdef rfl rfl rfl
  intro A' h₁ OK' S
  refine hw_cons ?_
  repeat' walk_at "e"
  refine ⟨keep_tab S.g 1 rfl, ?_⟩
  refine bytesFrom OK' S.g hlen (fun c hc => (hb c hc).1) fun h₂ t2 k2 => ?_
  have S := S.call k2
  repeat' walk_at "e"
  rename St mg mb _ _ _ _ _ _ _ => S
  refine hw_Call_kw ?_
  repeat' walk_at "e"
  refine hw_callWith_kw rfl ?_ rfl rfl
  repeat' walk_at "e"
  refine hw_evalAll ?_
  refine hw_bind ?_
  repeat' walk_at "e"
  refine hw_bind (hw_standAt (hw_pure ?_))
  refine hw_evalAll_nil ?_
  refine ⟨keep_tab S.g 6 rfl, ?_⟩
  have e0 : byt cs = byteArr (cs.map fun (c : Nat) => (c : Int)) := byt_eq cs
  rw [e0]
  refine a2b OK' S.g (by simpa using hlen) (fun m hm => ?_) fun h₃ t3 k3 => ?_
  · obtain ⟨c, hc, rfl⟩ := List.mem_map.mp hm
    have := hb c hc
    exact ⟨⟨by lia, by lia⟩, this.2⟩
  · exact q h₃ t3 (S.base.trans k3)
end

-- C10
section
open PySem PySem.W PyProof.Rows PySem.Calls
variable {prog : Program} {w : World} {A : Around} {mg mb : Str → Option Value} {h : Heap}

noncomputable def b64l : List UInt8 := [65, 66, 67, 68, 69, 70, 71, 72, 73, 74, 75, 76, 77, 78, 79, 80, 81, 82, 83, 84, 85, 86, 87, 88, 89, 90, 97, 98, 99, 100, 101, 102, 103, 104, 105, 106, 107, 108, 109, 110, 111, 112, 113, 114, 115, 116, 117, 118, 119, 120, 121, 122, 48, 49, 50, 51, 52, 53, 54, 55, 56, 57, 43, 47]
noncomputable def sgn (d : Int) : Int := (b64l.getD d.toNat 0).toNat
theorem sgn_byte (d : Int) : 0 ≤ sgn d ∧ sgn d < 256 := ⟨by unfold sgn; lia, by unfold sgn; have := (b64l.getD d.toNat 0).toNat_lt; lia⟩
theorem hw_b64item {value slice : Expr} {i : Int} {t u : Tok} {Q : Value → Heap → Prop} (h0 : 0 ≤ i) (h1 : i < 64) (q : ∀ t, Q (.int (sgn i) t) h)
    (hs : subscripted slice false (.bytes b64l.toArray t) (.int i u) = operate [.bytes b64l.toArray t, .int i u] (getItem (.bytes b64l.toArray t) (.int i u))) (ht : ∀ r, letTemporaryGo value (.bytes b64l.toArray t) r = pure ()) :
    hw (model prog w) A (subscriptTail value slice (.bytes b64l.toArray t) (.int i u)) Q h := fun s e =>
  subscriptTail_builtin (PySem.W.typeIs_bytes _ _ _) FB.slot_bytes_getitem.lookup (getItem_bytes (by decide) h0 h1 ⟨⟨rfl, rfl, rfl⟩, e ▸ q _⟩) hs ht
noncomputable def wloop : Nat → Int → Int → List Int → Int × List Int
  | 0, lb, _, out => (lb, out)
  | k + 1, lb, lc, out => if 6 ≤ lb then wloop k (lb - 6) lc (out ++ [sgn (lc / 2 ^ (lb - 6).toNat % 64)]) else (lb, out)
noncomputable def bstep (s : Int × Int × List Int) (b : Int) : Int × Int × List Int :=
  let lc := (s.2.1 * 256 + b) % 65536
  let r := wloop 2 (s.1 + 8) lc s.2.2
  (r.1, lc, r.2)
noncomputable def brun (bs : List Int) : Int × Int × List Int := bs.foldl bstep (0, 0, [])
noncomputable def BOk (s : Int × Int × List Int) : Prop := (s.1 = 0 ∨ s.1 = 2 ∨ s.1 = 4) ∧ (0 ≤ s.2.1 ∧ s.2.1 < 65536) ∧ ∀ n ∈ s.2.2, 0 ≤ n ∧ n < 256
theorem bstep_ok {s : Int × Int × List Int} {b : Int} (hs : BOk s) : BOk (bstep s b) ∧ (bstep s b).2.2.length ≤ s.2.2.length + 2 ∧ (bstep s b).1 = (s.1 + 2) % 6 := by
  obtain ⟨q, l, o⟩ := s
  obtain ⟨hq, hl, ho⟩ := hs
  simp only at hq hl ho
  have app : ∀ (o : List Int), (∀ n ∈ o, 0 ≤ n ∧ n < 256) → ∀ m : Int, ∀ n ∈ o ++ [sgn m], 0 ≤ n ∧ n < 256 := fun o ho m n hn => (List.mem_append.mp hn).elim (ho n) fun hn => by cases List.mem_singleton.mp hn; exact sgn_byte m
  have hlc : 0 ≤ (l * 256 + b) % 65536 ∧ (l * 256 + b) % 65536 < 65536 := by lia
  rcases hq with rfl | rfl | rfl
  · refine ⟨⟨.inr (.inl rfl), hlc, app _ ho _⟩, by simp [bstep, wloop], rfl⟩
  · refine ⟨⟨.inr (.inr rfl), hlc, app _ ho _⟩, by simp [bstep, wloop], rfl⟩
  · refine ⟨⟨.inl rfl, hlc, app _ (app _ ho _) _⟩, by simp [bstep, wloop], rfl⟩
theorem bfold_ok : ∀ (vs : List Int) (s : Int × Int × List Int), BOk s → BOk (vs.foldl bstep s) ∧ (vs.foldl bstep s).2.2.length ≤ s.2.2.length + 2 * vs.length ∧ (vs.foldl bstep s).1 = (s.1 + 2 * vs.length) % 6
  | [], s, hs => ⟨hs, Nat.le_refl _, by obtain ⟨hq, _⟩ := hs; simp; lia⟩
  | v :: r, s, hs => by
    have a := bstep_ok (b := v) hs
    have b := bfold_ok r (bstep s v) a.1
    refine ⟨b.1, ?_, ?_⟩
    · have := b.2.1; simp only [List.foldl_cons, List.length_cons]; lia
    · have := b.2.2; simp only [List.foldl_cons, List.length_cons]; rw [this, a.2.2]; lia
theorem b0_ok : BOk (0, 0, []) := ⟨.inl rfl, ⟨by decide, by decide⟩, fun _ hm => nomatch hm⟩
theorem b2a {ns : List Int} {t : Tok} {Q : Value → Heap → Prop} {n : Nat} (OK : Ok A (n + 2)) (G : Gd mg mb h) (hlen : ns.length = 9) (hr : ∀ n ∈ ns, 0 ≤ n ∧ n < 256)
    (q : ∀ h' t, KX [] h h' → Q (.bytes (byteArr (brun ns).2.2) t) h') :
    hw (model prog w) A (call (.ref 93) [.bytes (byteArr ns) t] [("newline", .bool false)]) Q h := by
  refine hw_fn 7 7 14 rfl rfl [("data", .bytes (byteArr ns) t), ("newline", .bool false)] ["data", "newline"] (fun _ => True) OK G (fun s e => BindsTo.of_eq ?bind) (by rfl) (by rfl) (by decide) rfl trivial (DepIn.true _) ?_ rfl
  case bind => rfl
  intro A' h₁ OK' S
  refine hw_cons ?_
  repeat' walk_at "e"
  refine ⟨keep_tab S.g 3 rfl, ?_⟩
  refine buffer OK' S.g fun h₂ k2 => ?_
  have S := S.call k2
  repeat' walk_at "e"
  rename St mg mb _ _ _ _ _ _ _ => S
  refine ⟨keep_tab S.g 4 rfl, ?_⟩
  refine truthF OK' S.g fun h₃ k3 => ?_
  have S := S.call k3
  repeat' walk_at "e"
  rename St mg mb _ _ _ _ _ _ _ => S
  refine hw_newPlain (Nat.zero_le _) fun O h₄ k4 hO PO => ?_
  have hOW := S.new hO
  have hOB : h.objs.size ≤ O := Nat.le_trans S.base.sz hO
  have S := (S.call k4).only (P := fun h => PIL h O []) ⟨[], PO, .nil⟩ (Dep.pil O []) fun a ha => by cases List.mem_singleton.mp ha; exact ⟨plain_lt PO, hOW⟩
  repeat' walk_at "e"
  rename St mg mb _ _ _ _ _ _ _ => S
  refine hw_For ?_ (fun _ => rfl)
  repeat' walk_at "e"
  refine hw_iter_bytes fun it h₅ k5 hit hit' I5 => ?_
  have hitB : h.objs.size ≤ it := Nat.le_trans S.base.sz hit
  have hi166 : 166 ≤ it := Nat.le_trans G.sz hitB
  have hitW : it ∉ [h.objs.size] := S.new hit
  have hOit : O ≠ it := fun e => Nat.lt_irrefl _ (Nat.lt_of_lt_of_le S.imm.il.lt (e ▸ hit))
  have T := itr_bytes (prog := prog) (w := w) (it := it) (ns := ns) (t := t) hr
  let env := callEnv (fdat 14 .none (.ref 86) (.str "binascii" 215) 92) h.objs.size 93
  let J : Nat → Heap → Prop := fun k hh => ∃ tl tb, St mg mb [] h [h.objs.size] env [("leftchar", .int (brun (ns.take k)).2.1 tl), ("leftbits", .int (brun (ns.take k)).1 tb), ("out", .ref O), ("newline", .bool false)] (fun h => PIL h O (brun (ns.take k)).2.2) hh
  refine' hc_For J OK'.hd T ?jst ?turn ?fin 0 (Nat.zero_le _) ⟨_, _, (S.call k5).sub ?sb⟩ ⟨Nat.zero_le _, I5⟩
  case sb => walk_at "subA"
  case jst =>
    rintro k hh hh' hk kx ⟨tl, tb, S⟩
    refine ⟨tl, tb, S.turn kx (fun a ha => by cases List.mem_singleton.mp ha; exact .inl hi166) (fun a ha => by cases List.mem_singleton.mp ha; exact .inl hitB) (fun hm => hitW (by rw [← List.mem_singleton.mp hm]; exact .head _)) (fun x c e => nomatch (show ([] : List (Str × Addr)).lookup x = some c from e)) (S.imm.keep kx fun hm => hOit (List.mem_singleton.mp hm)) (Dep.pil O _) fun a ha => ?_⟩
    cases List.mem_singleton.mp ha
    exact ⟨Nat.lt_of_lt_of_le S.imm.il.lt kx.sz, hOW⟩
  case fin =>
    rintro hh ⟨tl, tb, S⟩
    have ee : ns.take ns.length = ns := List.take_of_length_le (Nat.le_refl _)
    rw [ee] at S
    have a := bfold_ok ns _ b0_ok
    have hq0 : (brun ns).1 = 0 := by have := a.2.2; rw [hlen] at this; exact this
    have hol : (brun ns).2.2.length ≤ 18 := by have := a.2.1; rw [hlen] at this; simpa [brun] using this
    have hon := a.1.2.2
    change ∀ n ∈ (brun ns).2.2, 0 ≤ n ∧ n < 256 at hon
    generalize brun ns = st at *
    obtain ⟨q0, l0, out⟩ := st
    simp only at *
    subst hq0
    repeat' walk_at "e"
    refine hw_beq (fun e => absurd e (by decide)) (fun _ => ?_)
    repeat' walk_at "e"
    refine hw_beq (fun e => absurd e (by decide)) (fun _ => ?_)
    repeat' walk_at "e"
    refine hw_isTrue_plain ?_
    repeat' walk_at "e"
    refine hw_bytes OK'.hd S.imm.il hon (by lia) fun h₂ t k2 => ?_
    exact q h₂ t (S.base.trans k2)
  case turn =>
    rintro k v hh hk ⟨tv, rfl⟩ ⟨tl, tb, S0⟩ p
    have hkn : k < ns.length := hk
    have hmem : ns.getD k 0 ∈ ns := by rw [List.getD, List.getElem?_eq_getElem hkn]; exact List.getElem_mem hkn
    have hc := hr _ hmem
    have hv : ns[k]? = some (ns.getD k 0) := by simp [List.getD, List.getElem?_eq_getElem hkn]
    have hnext : brun (ns.take (k + 1)) = bstep (brun (ns.take k)) (ns.getD k 0) := by
      rw [List.take_add_one, hv]; simp [brun]
    have hok : BOk (brun (ns.take k)) := (bfold_ok _ _ b0_ok).1
    have hlen2 : (brun (ns.take k)).2.2.length ≤ 18 := by
      have a := (bfold_ok (ns.take k) _ b0_ok).2.1
      have b : (ns.take k).length ≤ 9 := Nat.le_trans (List.length_take_le' ..) (by lia)
      simp only [List.length_nil] at a
      exact Nat.le_trans a (by lia)
    generalize ns.getD k 0 = c at *
    generalize brun (ns.take k) = st at *
    obtain ⟨lb, lc, out⟩ := st
    simp only at *
    have app : ∀ {vars : List (Str × Value)} {o1 : List Int} {m : Int} {h₁ h₂ : Heap}, St mg mb ([h.objs.size] ++ [O]) hh [h.objs.size] env vars (fun h => PIL h O o1) h₁ → PIL h₂ O (o1 ++ [m]) → Heap.SameBut O h₁ h₂ → St mg mb ([h.objs.size] ++ [O]) hh [h.objs.size] env vars (fun h => PIL h O (o1 ++ [m])) h₂ := by
      intro vars o1 m h₁ h₂ S P' s'
      have kx : KX [O] h₁ h₂ := KX.same s' (.head _)
      refine S.turn kx (fun a ha => by cases List.mem_singleton.mp ha; exact .inl (Nat.le_trans G.sz hOB)) (fun a ha => .inr (List.mem_append_right _ ha)) (fun hm => hOW (by rw [← List.mem_singleton.mp hm]; exact .head _)) (fun x c e => nomatch (show ([] : List (Str × Addr)).lookup x = some c from e)) P' (Dep.pil O _) fun a ha => ?_
      cases List.mem_singleton.mp ha
      exact ⟨P'.il.lt, hOW⟩
    have S := S0.rebase [O]
    repeat' walk_at "e"
    refine hw_shl (by decide) (by decide) (by have := hok.2.1; simp only at this; lia) fun _ => ?_
    repeat' walk_at "e"
    rename St mg mb _ _ _ _ _ _ _ => S
    have hl0 := hok.2.1
    have hlb := hok.1
    simp only at hl0 hlb
    have e1 : Builtin.bitAnd (Builtin.bitOr (lc * 2 ^ (8 : Int).toNat) c) 65535 = (lc * 256 + c) % 65536 := by
      rw [bitAnd_m16, show lc * 2 ^ (8 : Int).toNat = lc * 2 ^ 8 from rfl, bor_add 8 hl0.1 hc.1 (by show c < 256; lia)]; rfl
    rw [e1] at S
    have hstep : bstep (lb, lc, out) c = ((wloop 2 (lb + 8) ((lc * 256 + c) % 65536) out).1, (lc * 256 + c) % 65536, (wloop 2 (lb + 8) ((lc * 256 + c) % 65536) out).2) := rfl
    have hlc2 : 0 ≤ (lc * 256 + c) % 65536 ∧ (lc * 256 + c) % 65536 < 65536 := by lia
    generalize (lc * 256 + c) % 65536 = lc2 at *
    refine' hw_While (fun m h' => ∃ lb' out' tb tl, St mg mb ([h.objs.size] ++ [O]) hh [h.objs.size] env [("leftbits", .int lb' tb), ("leftchar", .int lc2 tl), ("out", .ref O), ("newline", .bool false)] (fun h => PIL h O out') h' ∧ 0 ≤ lb' ∧ lb' < 6 * ((m : Int) + 1) ∧ wloop m lb' lc2 out' = wloop 2 (lb + 8) lc2 out ∧ out'.length + m ≤ 20) ?wturn 2 ⟨lb + 8, out, _, _, S.sub ?sbw, by lia, by lia, rfl, by lia⟩
    case sbw => walk_at "subA"
    case wturn =>
      rintro m h' ⟨lb', out', tb', tl', S, hb0, hb1, hwl, hol⟩
      repeat' walk_at "e"
      refine hw_dec (fun h6 => ?_) (fun h6 => ?_)
      · obtain ⟨m', rfl⟩ : ∃ m', m = m' + 1 := ⟨m - 1, by lia⟩
        repeat' walk_at "e"
        refine hw_Expr ?_
        refine hw_Append (D := O) ?_ rfl rfl rfl rfl
        repeat' walk_at "e"
        refine ⟨rfl, let ⟨vs, p, _⟩ := S.imm; ⟨_, p⟩, ?_⟩
        repeat' walk_at "e"
        refine hw_shr (by lia) fun _ => ?_
        repeat' walk_at "e"
        refine hw_b64item (by rw [bitAnd_m6]; lia) (by rw [bitAnd_m6]; lia) (fun _ => ?_) (by with_unfolding_all rfl) (by intro _; with_unfolding_all rfl)
        refine ⟨_, _, _, rfl, S.imm, by lia, fun h₅ P5 s5 => ⟨rfl, ?_⟩⟩
        have S := app S P5 s5
        rw [bitAnd_m6] at S
        repeat' walk_at "e"
        rename St mg mb _ _ _ _ _ _ _ => S
        refine' ⟨m', by lia, lb' - 6, out' ++ [sgn (lc2 / 2 ^ (lb' - 6).toNat % 64)], _, _, S.sub ?sbx, by lia, by lia, ?_, ?_⟩
        case sbx => walk_at "subA"
        · rw [← hwl, wloop, if_pos h6]
        · simp only [List.length_append, List.length_cons, List.length_nil]; lia
      · repeat' walk_at "e"
        have e2 : wloop m lb' lc2 out' = (lb', out') := by cases m with
          | zero => rfl
          | succ m => rw [wloop, if_neg h6]
        rw [e2] at hwl
        rw [← hwl] at hstep
        rw [hstep] at hnext
        refine ⟨⟨tl', tb', ?_⟩, ?_⟩
        · rw [hnext]
          exact (S0.unbase S fun a ha => by cases List.mem_singleton.mp ha; exact .inl hOB).sub (by walk_at "subA")
        · refine T.stab ([h.objs.size] ++ [O]) (fun a ha hm => ?_) (k + 1) hh _ S.base p
          cases List.mem_singleton.mp hm
          rcases List.mem_append.mp ha with ha | ha
          · exact hitW ha
          · exact hOit (List.mem_singleton.mp ha).symm
end

-- C11
section
open PySem PySem.W PyProof.Rows PySem.Calls
variable {prog : Program} {w : World} {A : Around} {mg mb : Str → Option Value} {h : Heap}

theorem b64encode {ns : List Int} {t : Tok} {Q : Value → Heap → Prop} {n : Nat} (OK : Ok A (n + 3)) (G : Gd mg mb h) (hlen : ns.length = 9) (hr : ∀ n ∈ ns, 0 ≤ n ∧ n < 256) (q : ∀ h' t, KX [] h h' → Q (.bytes (byteArr (brun ns).2.2) t) h') :
    hw (model prog w) A (call (.ref 101) [.bytes (byteArr ns) t]) Q h := by
  have hdef := G.at_ _ (List.mem_of_getElem? (i := 20) (by rfl : addrTab[20]? = some (94, _)))
  refine hw_fn 8 8 16 rfl rfl [("s", .bytes (byteArr ns) t), ("altchars", .none)] ["s", "altchars"] (fun _ => True) OK G (fun s e => ?bind) (by rfl) (by rfl) (by decide) rfl trivial (DepIn.true _) ?_ rfl
  case bind =>
    subst e
    exact BindsTo.of_defaults rfl hdef rfl rfl rfl
  intro A' h₁ OK' S
  refine hw_cons ?_
  repeat' walk_at "e"
  refine hw_Call_kw ?_
  repeat' walk_at "e"
  refine hw_callWith_kw rfl ?_ rfl rfl
  repeat' walk_at "e"
  refine hw_evalAll ?_
  refine hw_bind ?_
  repeat' walk_at "e"
  refine hw_bind (hw_standAt (hw_pure ?_))
  refine hw_evalAll_nil ?_
  refine ⟨keep_tab S.g 7 rfl, ?_⟩
  refine b2a OK' S.g hlen hr fun h₃ t3 k3 => ?_
  have S := S.call k3
  repeat' walk_at "e"
  rename St mg mb _ _ _ _ _ _ _ => S
  exact q _ t3 S.base
end

-- C12
section
open PySem PySem.W PyProof.Rows PySem.Calls
variable {prog : Program} {w : World} {A : Around} {mg mb : Str → Option Value} {h : Heap}

/-- reduce over a list, from its first item on -/
theorem reduceL {f l : Addr} {vs : List Value} {v0 : Value} {Q : Value → Heap → Prop} {n : Nat} (R : Nat → Value → Prop) (OK : Ok A (n + 1)) (G : Gd mg mb h) (hl : h.IsList l vs.toArray) (h0 : vs[0]? = some v0) (r0 : R 1 v0)
    (hf : ∀ h', KX [] h h' → KeepOk (model prog w) (.ref f) h')
    (step : ∀ i a e A' h', Ok A' n → Gd mg mb h' → KX [] h h' → vs[i]? = some e → R i a → hw (model prog w) A' (call (.ref f) [a, e]) (fun r h'' => KX [] h' h'' ∧ R (i + 1) r) h')
    (q : ∀ h' v, KX [] h h' → R vs.length v → Q v h') : hw (model prog w) A (call (.ref 125) [.ref f, .ref l]) Q h := by
  have hdef := G.at_ _ (List.mem_of_getElem? (i := 22) (by rfl : addrTab[22]? = some (118, _)))
  refine hw_fn 12 11 21 rfl rfl [("function", .ref f), ("sequence", .ref l), ("initial", .ref 117)] ["function", "sequence", "initial"] (fun h => h.IsList l vs.toArray) OK G (fun s e => ?bind) (by rfl) (by rfl) (by decide) rfl hl (DepIn.list hl) ?_ rfl
  case bind =>
    subst e
    exact BindsTo.of_defaults rfl hdef rfl rfl rfl
  intro A' h₁ OK' S
  refine hw_cons ?_
  repeat' walk_at "e"
  refine hw_iter fun B hB => hw_iter_list S.imm fun it h₂ k2 hit hne hit' I2 L2 => ?_
  have hitB : h.objs.size ≤ it := Nat.le_trans S.base.sz hit
  have hi166 : 166 ≤ it := Nat.le_trans G.sz hitB
  have hnW : it ∉ [h.objs.size] ∧ l ∉ [h.objs.size] := ⟨S.new hit, fun hm => Nat.ne_of_lt (list_lt hl) (List.mem_singleton.mp hm)⟩
  have li : LI it l vs 0 h₂ := ⟨I2, L2⟩
  have S := (S.call k2).only li (Dep.li it l vs 0) fun a ha => ⟨li.lt a ha, by
    rcases List.mem_cons.mp ha with rfl | ha
    · exact hnW.1
    · cases List.mem_singleton.mp ha; exact hnW.2⟩
  repeat' walk_at "e"
  rename St mg mb _ _ _ _ _ _ _ => S
  have o117 := S.g.at_ _ (List.mem_of_getElem? (i := 11) (by rfl : addrTab[11]? = some (117, _)))
  refine hw_is_ref o117 o117 (by decide) ?_
  rw [decide_eq_true rfl]
  repeat' walk_at "e"
  have hloc : h.objs.size ≠ it := fun e => hnW.1 (e ▸ .head _)
  refine hs_next S h0 hne hi166 (.inl hitB) hloc (fun x c e => nomatch (show ([] : List (Str × Addr)).lookup x = some c from e)) hnW fun h₃ S => ?_
  repeat' walk_at "e"
  rename St mg mb _ _ _ _ _ _ _ => S
  have T := (itr_list (prog := prog) (w := w) (items := vs.toArray) hne).shift 1
  have li3 := S.imm
  let env := callEnv (fdat 21 (.ref 118) .none (.str "cpy313.functools" 318) 124) h.objs.size 125
  let J : Nat → Heap → Prop := fun i hh => ∃ v, R (i + 1) v ∧ St mg mb [] h [h.objs.size] env [("value", v), ("it", .ref it), ("function", .ref f)] (fun h => h.IsList l vs.toArray) hh
  have hlW : ∀ {hh : Heap}, hh.IsList l vs.toArray → ∀ a ∈ [l], a < hh.objs.size ∧ a ∉ [h.objs.size] := fun x a ha => by cases List.mem_singleton.mp ha; exact ⟨list_lt x, hnW.2⟩
  refine hw_For ?_ (fun _ => rfl)
  repeat' walk_at "e"
  refine hw_mono (T.iter A' 0 _ li3) ?_
  rintro _ _ ⟨rfl, rfl⟩
  have hn1 : 1 ≤ vs.length := by have := (List.getElem?_eq_some_iff.mp h0).1; lia
  refine' hc_For J OK'.hd T ?jst ?turn ?fin 0 (Nat.zero_le _) ⟨v0, r0, (S.only li3.2 (Dep.list l vs.toArray) (hlW li3.2)).sub ?sb⟩ li3
  case sb => walk_at "sub"
  case jst =>
    rintro i hh hh' hi kx ⟨v, rv, S⟩
    have L' : hh'.IsList l vs.toArray := list_keep S.imm kx fun hm => hne (List.mem_singleton.mp hm).symm
    refine ⟨v, rv, S.turn kx (fun a ha => by cases List.mem_singleton.mp ha; exact .inl hi166) (fun a ha => by cases List.mem_singleton.mp ha; exact .inl hitB) (fun hm => hloc (List.mem_singleton.mp hm)) (fun x c e => nomatch (show ([] : List (Str × Addr)).lookup x = some c from e)) L' (Dep.list l vs.toArray) (hlW L')⟩
  case turn =>
    rintro i e hh hi hv ⟨v, rv, S0⟩ p
    have hv' : vs[1 + i]? = some e := by simpa using hv
    have S := S0.rebase []
    repeat' walk_at "e"
    rename St mg mb _ _ _ _ _ _ _ => S
    have kb : ∀ {l' I' h'}, St mg mb ([h.objs.size] ++ []) hh [h.objs.size] env l' I' h' → KX [] h h' := fun S' => (S0.unbase S' fun _ hm => nomatch hm).base
    refine ⟨hf _ (kb S), ?_⟩
    refine hw_mono (step (1 + i) v e A' _ OK' S.g (kb S) hv' (by rw [Nat.add_comm]; exact rv)) fun r h₄ ⟨k4, r4⟩ => ?_
    have S := S.call k4
    repeat' walk_at "e"
    rename St mg mb _ _ _ _ _ _ _ => S
    refine ⟨⟨r, by rw [show i + 1 + 1 = 1 + i + 1 by lia]; exact r4, (S0.unbase S fun _ hm => nomatch hm).sub (by walk_at "sub")⟩, ?_⟩
    refine T.stab ([h.objs.size] ++ []) (fun a ha hm => ?_) (i + 1) hh _ S.base p
    have e1 : a = h.objs.size := by simpa using ha
    subst e1
    rcases List.mem_cons.mp hm with e | hm
    · exact hloc e
    · exact hnW.2 (by rw [← List.mem_singleton.mp hm]; exact .head _)
  case fin =>
    rintro hh ⟨v, rv, S⟩
    repeat' walk_at "e"
    refine q _ v S.base ?_
    rw [List.size_toArray, Nat.sub_add_cancel hn1] at rv
    exact rv
/-- reduce over octets, from a given value on -/
theorem reduceB {f : Addr} {ns : List Int} {tb : Tok} {z : Int} {tz : Tok} {Q : Value → Heap → Prop} {n : Nat} (R : Nat → Value → Prop) (OK : Ok A (n + 1)) (G : Gd mg mb h) (hr : ∀ n ∈ ns, 0 ≤ n ∧ n < 256) (r0 : R 0 (.int z tz))
    (hf : ∀ h', KX [] h h' → KeepOk (model prog w) (.ref f) h')
    (step : ∀ i a e t A' h', Ok A' n → Gd mg mb h' → KX [] h h' → ns[i]? = some e → R i a → hw (model prog w) A' (call (.ref f) [a, .int e t]) (fun r h'' => KX [] h' h'' ∧ R (i + 1) r) h')
    (q : ∀ h' v, KX [] h h' → R ns.length v → Q v h') : hw (model prog w) A (call (.ref 125) [.ref f, .bytes (byteArr ns) tb, .int z tz]) Q h := by
  have hdef := G.at_ _ (List.mem_of_getElem? (i := 22) (by rfl : addrTab[22]? = some (118, _)))
  refine hw_fn 12 11 21 rfl rfl [("function", .ref f), ("sequence", .bytes (byteArr ns) tb), ("initial", .int z tz)] ["function", "sequence", "initial"] (fun _ => True) OK G (fun s e => ?bind) (by rfl) (by rfl) (by decide) rfl trivial (DepIn.true _) ?_ rfl
  case bind =>
    subst e
    exact BindsTo.of_defaults rfl hdef rfl rfl rfl
  intro A' h₁ OK' S
  refine hw_cons ?_
  repeat' walk_at "e"
  refine hw_iter fun B hB => hw_iter_bytes fun it h₂ k2 hit hit' I2 => ?_
  have hitB : h.objs.size ≤ it := Nat.le_trans S.base.sz hit
  have hi166 : 166 ≤ it := Nat.le_trans G.sz hitB
  have hnW : it ∉ [h.objs.size] := S.new hit
  have hloc : h.objs.size ≠ it := fun e => hnW (e ▸ .head _)
  have dep0 : Dep [it] (fun h => KBw.IsBytesIter h it (byteArr ns) tb 0) := fun U hu _ _ k x => let ⟨o, ho, r⟩ := x; ⟨o, k.keep it o (fun hm => hu it hm (.head _)) ho, r⟩
  have S := (S.call k2).only (P := fun h => KBw.IsBytesIter h it (byteArr ns) tb 0) I2 dep0 fun a ha => by cases List.mem_singleton.mp ha; exact ⟨hit', hnW⟩
  repeat' walk_at "e"
  rename St mg mb _ _ _ _ _ _ _ => S
  refine hw_is rfl ?_
  rw [show (Value.int z tz == Value.ref 117) = false from rfl]
  repeat' walk_at "e"
  rename St mg mb _ _ _ _ _ _ _ => S
  have T := itr_bytes (prog := prog) (w := w) (it := it) (ns := ns) (t := tb) hr
  have I3 := S.imm
  let env := callEnv (fdat 21 (.ref 118) .none (.str "cpy313.functools" 318) 124) h.objs.size 125
  let J : Nat → Heap → Prop := fun i hh => ∃ v, R i v ∧ St mg mb [] h [h.objs.size] env [("value", v), ("it", .ref it), ("function", .ref f)] (fun _ => True) hh
  refine hw_For ?_ (fun _ => rfl)
  repeat' walk_at "e"
  refine hw_mono (T.iter A' 0 _ ⟨Nat.zero_le _, I3⟩) ?_
  rintro _ _ ⟨rfl, rfl⟩
  refine' hc_For J OK'.hd T ?jst ?turn ?fin 0 (Nat.zero_le _) ⟨_, r0, (S.only (P := fun _ => True) trivial Dep.true (fun _ hm => nomatch hm)).sub ?sb⟩ ⟨Nat.zero_le _, I3⟩
  case sb => walk_at "sub"
  case jst =>
    rintro i hh hh' hi kx ⟨v, rv, S⟩
    exact ⟨v, rv, S.turn kx (fun a ha => by cases List.mem_singleton.mp ha; exact .inl hi166) (fun a ha => by cases List.mem_singleton.mp ha; exact .inl hitB) (fun hm => hloc (List.mem_singleton.mp hm)) (fun x c e => nomatch (show ([] : List (Str × Addr)).lookup x = some c from e)) trivial Dep.true (fun _ hm => nomatch hm)⟩
  case turn =>
    rintro i e hh hi ⟨te, rfl⟩ ⟨v, rv, S0⟩ p
    have hi' : i < ns.length := hi
    have hv' : ns[i]? = some (ns.getD i 0) := by simp [List.getD, List.getElem?_eq_getElem hi']
    have S := S0.rebase []
    repeat' walk_at "e"
    rename St mg mb _ _ _ _ _ _ _ => S
    have kb : ∀ {l' I' h'}, St mg mb ([h.objs.size] ++ []) hh [h.objs.size] env l' I' h' → KX [] h h' := fun S' => (S0.unbase S' fun _ hm => nomatch hm).base
    refine ⟨hf _ (kb S), ?_⟩
    refine hw_mono (step i v _ te A' _ OK' S.g (kb S) hv' rv) fun r h₄ ⟨k4, r4⟩ => ?_
    have S := S.call k4
    repeat' walk_at "e"
    rename St mg mb _ _ _ _ _ _ _ => S
    refine ⟨⟨r, r4, (S0.unbase S fun _ hm => nomatch hm).sub (by walk_at "sub")⟩, ?_⟩
    refine T.stab ([h.objs.size] ++ []) (fun a ha hm => ?_) (i + 1) hh _ S.base p
    have e1 : a = h.objs.size := by simpa using ha
    subst e1
    exact hloc (List.mem_singleton.mp hm)
  case fin =>
    rintro hh ⟨v, rv, S⟩
    repeat' walk_at "e"
    exact q _ v S.base rv
end

-- C13
section
open PySem PySem.W PyProof.Rows PySem.Calls
variable {prog : Program} {w : World} {A : Around} {mg mb : Str → Option Value} {h : Heap}

inductive AskOp : CmpOp → Nat → Prop
  | lt (u : Unit) : AskOp .Lt 0
  | gt (u : Unit) : AskOp .Gt 1
  | le (u : Unit) : AskOp .LtE 2
  | ge (u : Unit) : AskOp .GtE 3
  | eq (u : Unit) : AskOp .Eq 4
  | ne (u : Unit) : AskOp .NotEq 5
theorem lawAsked {v1 v2 : Value} {ask : Nat → Bool} {Q : Value → Heap → Prop} {n : Nat} (OK : Ok A (n + 1)) (G : Gd mg mb h)
    (cmp : ∀ op i A' h', AskOp op i → Ok A' n → Gd mg mb h' → KX [] h h' → hw (model prog w) A' (compareOp op v1 v2) (fun r h'' => KX [] h' h'' ∧ r = .bool (ask i)) h')
    (q : ∀ h' a, KX [] h h' → h.objs.size ≤ a → h'.IsList a (((List.range 6).map ask).map Value.bool).toArray → Q (.ref a) h') : hw (model prog w) A (call (.ref 159) [v1, v2]) Q h := by
  refine hw_fn 18 17 28 rfl rfl [("one", v1), ("two", v2)] ["one", "two"] (fun _ => True) OK G (fun s e => BindsTo.of_eq rfl) (by rfl) (by rfl) (by decide) rfl trivial (DepIn.true _) ?_ rfl
  intro A' h₁ OK' S
  refine hw_cons ?_
  repeat' walk_at "e"
  refine hw_mono (cmp _ _ A' _ (.lt ()) OK' S.g S.base) ?_
  rintro _ h2 ⟨k2, rfl⟩
  have S := S.call k2
  repeat' walk_at "e"
  refine hw_mono (cmp _ _ A' _ (.gt ()) OK' S.g S.base) ?_
  rintro _ h3 ⟨k3, rfl⟩
  have S := S.call k3
  repeat' walk_at "e"
  refine hw_mono (cmp _ _ A' _ (.le ()) OK' S.g S.base) ?_
  rintro _ h4 ⟨k4, rfl⟩
  have S := S.call k4
  repeat' walk_at "e"
  refine hw_mono (cmp _ _ A' _ (.ge ()) OK' S.g S.base) ?_
  rintro _ h5 ⟨k5, rfl⟩
  have S := S.call k5
  repeat' walk_at "e"
  refine hw_mono (cmp _ _ A' _ (.eq ()) OK' S.g S.base) ?_
  rintro _ h6 ⟨k6, rfl⟩
  have S := S.call k6
  repeat' walk_at "e"
  refine hw_mono (cmp _ _ A' _ (.ne ()) OK' S.g S.base) ?_
  rintro _ h7 ⟨k7, rfl⟩
  have S := S.call k7
  repeat' walk_at "e"
  refine hw_newList (by show 6 ≤ sizeLine; decide) fun a h9 k9 ha ha' L => ?_
  exact q h9 a (S.base.trans k9) (Nat.le_trans S.base.sz ha) L
end

-- P1
section
open PySem PySem.W PyProof.Rows PySem.Calls
/-! ## Plain laws: digits -/
noncomputable def val64 (ds : List Int) (v : Int) : Int := ds.foldl (fun v d => v * 64 + d) v
theorem val64_app (a b : List Int) (v : Int) : val64 (a ++ b) v = val64 b (val64 a v) := by simp [val64]
theorem val64_pow : ∀ (ds : List Int) (v : Int), val64 ds v = v * 64 ^ ds.length + val64 ds 0
  | [], v => by simp [val64]
  | d :: r, v => by
    have a := val64_pow r (v * 64 + d)
    have b := val64_pow r (0 * 64 + d)
    show val64 r (v * 64 + d) = v * 64 ^ (r.length + 1) + val64 r (0 * 64 + d)
    rw [a, b, Int.pow_succ]
    have e : v * (64 ^ r.length * 64) = v * 64 * 64 ^ r.length := by rw [Int.mul_assoc, Int.mul_comm 64]
    rw [e, Int.add_mul, Int.add_mul]
    lia
noncomputable def DigOk (ds : List Int) : Prop := ∀ d ∈ ds, 0 ≤ d ∧ d < 64
theorem dstep_spec : ∀ (k j : Nat) (n : Int) (acc : List Int), acc ≠ [] → 0 ≤ n → n < 64 ^ j → j ≤ k →
    ∃ pre, dstep k n acc = pre ++ acc ∧ val64 pre 0 = n ∧ DigOk pre ∧ pre.length ≤ j ∧ (∀ d r, pre = d :: r → 0 < d)
  | 0, j, n, acc, ha, h0, h1, hj => by
    have : j = 0 := by lia
    subst this
    have : n < 1 := by simpa using h1
    have : n = 0 := by lia
    subst this
    exact ⟨[], rfl, rfl, (fun _ hm => nomatch hm), Nat.le_refl _, fun d r e => nomatch e⟩
  | k + 1, j, n, acc, ha, h0, h1, hj => by
    by_cases hn : 0 < n
    · obtain ⟨j', rfl⟩ : ∃ j', j = j' + 1 := by
        cases j with
        | zero => have : n < 1 := by simpa using h1
                  lia
        | succ j' => exact ⟨j', rfl⟩
      have h1' : n < 64 ^ j' * 64 := by rw [← Int.pow_succ]; exact h1
      obtain ⟨pre, e, v, ok, len, hd⟩ := dstep_spec k j' (n / 64) (n % 64 :: acc) (by simp) (by lia) (by lia) (by lia)
      refine ⟨pre ++ [n % 64], ?_, ?_, ?_, ?_, ?_⟩
      · rw [dstep, if_pos (.inr hn), e]; simp
      · rw [val64_app, v]; simp [val64]; lia
      · intro d hd
        rcases List.mem_append.mp hd with hd | hd
        · exact ok d hd
        · cases List.mem_singleton.mp hd; lia
      · simp; lia
      · intro d r e
        cases pre with
        | nil =>
          simp at e
          have : n / 64 = 0 := v.symm
          lia
        | cons p ps => simp at e; exact e.1 ▸ hd p ps rfl
    · have : n = 0 := by lia
      subst this
      refine ⟨[], ?_, rfl, (fun _ hm => nomatch hm), Nat.zero_le _, fun d r e => nomatch e⟩
      rw [dstep, if_neg (by simp [ha])]; rfl
theorem digs_spec {N : Int} (h0 : 0 ≤ N) (h1 : N < 64 ^ 7) : ∃ pre, digsOf N = pre ++ [N % 64] ∧ val64 pre 0 = N / 64 ∧ DigOk pre ∧ pre.length ≤ 6 ∧ (∀ d r, pre = d :: r → 0 < d) := by
  have h1' : N / 64 < 64 ^ 6 := by lia
  obtain ⟨pre, e, v, ok, len, hd⟩ := dstep_spec 7 6 (N / 64) [N % 64] (by simp) (by lia) h1' (by decide)
  exact ⟨pre, by unfold digsOf; rw [dstep, if_pos (.inl rfl), e], v, ok, len, hd⟩
theorem numOf_bound (x : Int) : 0 ≤ numOf x ∧ numOf x < 64 ^ 7 := by unfold numOf; constructor <;> lia
theorem val64_zeros : ∀ (z : Nat), val64 (List.replicate z 0) 0 = 0
  | 0 => rfl
  | z + 1 => by rw [List.replicate_succ]; exact val64_zeros z
theorem digitsOf_spec (x : Int) : val64 (digitsOf x) 0 = numOf x ∧ DigOk (digitsOf x) ∧ 1 ≤ (digitsOf x).length ∧ (digitsOf x).length ≤ 9 := by
  obtain ⟨h0, h1⟩ := numOf_bound x
  obtain ⟨pre, e, v, ok, len, hd⟩ := digs_spec h0 h1
  have hz : (x % 3).toNat ≤ 2 := by lia
  unfold digitsOf
  rw [e]
  refine ⟨?_, ?_, ?_, ?_⟩
  · rw [val64_app, val64_zeros, val64_app, v]; simp [val64]; lia
  · intro d hd
    rcases List.mem_append.mp hd with hd | hd
    · have := (List.mem_replicate.mp hd).2; lia
    · rcases List.mem_append.mp hd with hd | hd
      · exact ok d hd
      · cases List.mem_singleton.mp hd; lia
  · simp; lia
  · simp; lia
end

-- P2
section
open PySem PySem.W PyProof.Rows PySem.Calls
/-! ## Plain laws: rows -/
theorem rowOf_len (ds : List Int) (u : Int) : (rowOf ds u).length = ds.length := by simp [rowOf]
theorem flags_get {n i : Nat} (h : i < n) : (flagsOf n).getD i 0 = if (i : Int) < (n : Int) - 1 then 64 else 0 := by
  simp [flagsOf, List.getD, h]
theorem rowOf_get {ds : List Int} {u : Int} {i : Nat} (h : i < ds.length) : (rowOf ds u)[i]? = some (ds.getD i 0 + (if (i : Int) < (ds.length : Int) - 1 then 64 else 0) + ((i : Int) + u) % 2 * 128) := by
  unfold rowOf
  rw [List.getElem?_map, List.getElem?_range h]
  simp only [Option.map_some]
  rw [flags_get h]
theorem dig_get {ds : List Int} (hd : DigOk ds) {i : Nat} (h : i < ds.length) : 0 ≤ ds.getD i 0 ∧ ds.getD i 0 < 64 := by
  have : ds.getD i 0 = ds[i] := by simp [List.getD, h]
  rw [this]; exact hd _ (List.getElem_mem h)
theorem row_mem {ds : List Int} {u : Int} (hd : DigOk ds) {i : Nat} {o : Int} (e : (rowOf ds u)[i]? = some o) : (0 ≤ o ∧ o < 256) ∧ o % 64 = ds.getD i 0 ∧ o / 64 % 2 = if (i : Int) < (ds.length : Int) - 1 then 1 else 0 := by
  have hi : i < ds.length := by have := (List.getElem?_eq_some_iff.mp e).1; rwa [rowOf_len] at this
  rw [rowOf_get hi] at e
  cases e
  have := dig_get hd hi
  split <;> lia
theorem six_row {ds : List Int} {u : Int} (hd : DigOk ds) : six (rowOf ds u) = ds := by
  apply List.ext_getElem?
  intro i
  unfold six
  rw [List.getElem?_map]
  cases e : (rowOf ds u)[i]? with
  | none =>
    have := List.getElem?_eq_none_iff.mp e
    rw [rowOf_len] at this
    simp [List.getElem?_eq_none this]
  | some o =>
    have hi : i < ds.length := by have := (List.getElem?_eq_some_iff.mp e).1; rwa [rowOf_len] at this
    have := (row_mem hd e).2.1
    simp only [Option.map_some, this]
    simp [List.getD, hi]
theorem sixVal_six : ∀ (os : List Int) (v : Int), sixVal os v = val64 (six os) v
  | [], v => rfl
  | o :: r, v => sixVal_six r (v * 64 + o % 64)
theorem row_split {ds : List Int} {u : Int} (hd : DigOk ds) (h1 : 1 ≤ ds.length) : ∃ os last, rowOf ds u = os ++ [last] ∧ os.length + 1 = ds.length ∧ (∀ o ∈ os, (0 ≤ o ∧ o < 256) ∧ o / 64 % 2 = 1) ∧ ((0 ≤ last ∧ last < 256) ∧ last / 64 % 2 = 0) := by
  have hne : rowOf ds u ≠ [] := fun e => by have := rowOf_len ds u; rw [e] at this; simp at this; lia
  refine ⟨(rowOf ds u).dropLast, (rowOf ds u).getLast hne, (List.dropLast_concat_getLast hne).symm, ?_, ?_, ?_⟩
  · rw [List.length_dropLast, rowOf_len]; lia
  · intro o ho
    obtain ⟨i, hi⟩ := List.mem_iff_getElem?.mp ho
    have hlt := (List.getElem?_eq_some_iff.mp hi).1
    rw [List.length_dropLast, rowOf_len] at hlt
    rw [List.getElem?_dropLast, if_pos (by rw [rowOf_len]; lia)] at hi
    have := row_mem hd hi
    rw [if_pos (by lia)] at this
    exact ⟨this.1, this.2.2⟩
  · have e : (rowOf ds u)[ds.length - 1]? = some ((rowOf ds u).getLast hne) := by
      rw [List.getLast_eq_getElem, List.getElem?_eq_getElem (by rw [rowOf_len]; lia)]
      simp [rowOf_len]
    have := row_mem hd e
    rw [if_neg (by lia)] at this
    exact ⟨this.1, this.2.2⟩
theorem sixVal_row {ds : List Int} {u : Int} (hd : DigOk ds) : sixVal (rowOf ds u) 0 = val64 ds 0 := by rw [sixVal_six, six_row hd]
end

-- P3
section
open PySem PySem.W PyProof.Rows PySem.Calls
/-! ## Plain laws: signs -/
theorem sign_all : ∀ d : Fin 64, alpha.cps.getD d.val 0 < 128 ∧ b64v ((alpha.cps.getD d.val 0 : Nat) : Int) = d.val ∧ sgn d.val = ((alpha.cps.getD d.val 0 : Nat) : Int) := by decide +kernel
theorem sign_spec (o : Int) : signOf o < 128 ∧ b64v (signOf o : Int) = o % 64 ∧ sgn (o % 64) = (signOf o : Int) := by
  have h : (o % 64).toNat < 64 := by lia
  have := sign_all ⟨(o % 64).toNat, h⟩
  have e : (((o % 64).toNat : Nat) : Int) = o % 64 := by lia
  unfold signOf
  simp only at this
  rw [e] at this
  exact this
/-! ## base64 in groups -/
noncomputable def grp (a b c d : Int) : List Int := [a * 4 + b / 16, b % 16 * 16 + c / 4, c % 4 * 64 + d]
theorem q_grp (o : List Int) (a b c d : Int) (r : List Int) : (a :: b :: c :: d :: r).foldl qstep (0, 0, o) = r.foldl qstep (0, 0, o ++ grp a b c d) := by
  simp [qstep, grp]
noncomputable def val256 (bs : List Int) (v : Int) : Int := bs.foldl (fun v b => v * 256 + b) v
theorem val_grp {a b c d : Int} (v : Int) (ha : 0 ≤ a ∧ a < 64) (hb : 0 ≤ b ∧ b < 64) (hc : 0 ≤ c ∧ c < 64) (hd : 0 ≤ d ∧ d < 64) : val256 (grp a b c d) v = val64 [a, b, c, d] v := by
  simp only [val256, val64, grp, List.foldl_cons, List.foldl_nil]
  lia
theorem bstep0 (l x : Int) (o : List Int) : bstep (0, l, o) x = (2, (l * 256 + x) % 65536, o ++ [sgn ((l * 256 + x) % 65536 / 4 % 64)]) := rfl
theorem bstep2 (l x : Int) (o : List Int) : bstep (2, l, o) x = (4, (l * 256 + x) % 65536, o ++ [sgn ((l * 256 + x) % 65536 / 16 % 64)]) := rfl
theorem bstep4 (l x : Int) (o : List Int) : bstep (4, l, o) x = (0, (l * 256 + x) % 65536, o ++ [sgn ((l * 256 + x) % 65536 / 64 % 64)] ++ [sgn ((l * 256 + x) % 65536 / 1 % 64)]) := rfl
theorem m16 (z : Int) : z % 65536 / 16 % 64 = z / 16 % 64 := by omega
theorem m4 (z : Int) : z % 65536 / 4 % 64 = z / 4 % 64 := by omega
theorem m64 (z : Int) : z % 65536 / 64 % 64 = z / 64 % 64 := by omega
theorem m1 (z : Int) : z % 65536 / 1 % 64 = z % 64 := by omega
theorem mm (y x : Int) : (y % 65536 * 256 + x) % 65536 = (y * 256 + x) % 65536 := by omega
theorem g0 {a b lc : Int} (ha : 0 ≤ a ∧ a < 64) (hb : 0 ≤ b ∧ b < 64) : (lc * 256 + (a * 4 + b / 16)) / 4 % 64 = a := by omega
theorem g1 {x y c : Int} (y0 : 0 ≤ y ∧ y < 64) (hc : 0 ≤ c ∧ c < 64) : ((x + y / 16) * 256 + (y % 16 * 16 + c / 4)) / 16 = x * 16 + y := by omega
theorem g2 {x c d : Int} (hc : 0 ≤ c ∧ c < 64) (hd : 0 ≤ d ∧ d < 64) : ((x * 16 + c / 4) * 256 + (c % 4 * 64 + d)) / 64 = x * 64 + c := by omega
theorem g3 {x c d : Int} (hd : 0 ≤ d ∧ d < 64) : (x * 256 + (c * 64 + d)) % 64 = d := by omega
theorem g4 {x y : Int} (hy : 0 ≤ y ∧ y < 64) : (x * 64 + y) % 64 = y := by omega
theorem b_grp {a b c d lc : Int} {o : List Int} (ha : 0 ≤ a ∧ a < 64) (hb : 0 ≤ b ∧ b < 64) (hc : 0 ≤ c ∧ c < 64) (hd : 0 ≤ d ∧ d < 64) :
    ∃ lc', (grp a b c d).foldl bstep (0, lc, o) = (0, lc', o ++ [sgn a, sgn b, sgn c, sgn d]) := by
  simp only [grp, List.foldl_cons, List.foldl_nil]
  rw [bstep0, bstep2, bstep4]
  have e1 : (lc * 256 + (a * 4 + b / 16)) % 65536 / 4 % 64 = a := (m4 _).trans (g0 ha hb)
  have e2 : ((lc * 256 + (a * 4 + b / 16)) % 65536 * 256 + (b % 16 * 16 + c / 4)) % 65536 / 16 % 64 = b := by
    rw [mm, m16, show lc * 256 + (a * 4 + b / 16) = (lc * 64 + a) * 4 + b / 16 by omega, g1 hb hc]; omega
  have e3 : (((lc * 256 + (a * 4 + b / 16)) % 65536 * 256 + (b % 16 * 16 + c / 4)) % 65536 * 256 + (c % 4 * 64 + d)) % 65536 / 64 % 64 = c := by
    generalize (lc * 256 + (a * 4 + b / 16)) % 65536 = y
    rw [mm, m64, show y * 256 + (b % 16 * 16 + c / 4) = (y * 16 + b % 16) * 16 + c / 4 by omega, g2 hc hd, g4 hc]
  have e4 : (((lc * 256 + (a * 4 + b / 16)) % 65536 * 256 + (b % 16 * 16 + c / 4)) % 65536 * 256 + (c % 4 * 64 + d)) % 65536 / 1 % 64 = d := (m1 _).trans (g3 hd)
  rw [e1, e2, e3, e4]
  exact ⟨_, Prod.ext rfl (Prod.ext rfl (by simp))⟩
end

-- D0
section
open PySem PySem.W PyProof.Rows PySem.Calls
open PySem.W.X (Mem tableObj hasCls away)
/-! ## A ledger of new objects -/
structure Led (X : List Addr) (h₀ h : Heap) (news : List (Addr × Obj)) : Prop where
  keep : ∀ b o, b ∉ X → h₀.get? b = some o → h.get? b = some o
  sz : h₀.objs.size ≤ h.objs.size
  nw : ∀ p ∈ news, h.get? p.1 = some p.2 ∧ (h₀.objs.size ≤ p.1 ∨ p.1 ∈ X)
  nd : (news.map (·.1)).Nodup
inductive Rm (p : Addr × Obj) : List (Addr × Obj) → List (Addr × Obj) → Prop
  | hit (l) : Rm p (p :: l) l
  | miss (q) {l l'} : Rm p l l' → Rm p (q :: l) (q :: l')
theorem Rm.perm {p : Addr × Obj} {l l' : List (Addr × Obj)} (x : Rm p l l') : l.Perm (p :: l') := by
  induction x with
  | hit l => exact .refl _
  | miss q r ih => exact (ih.cons q).trans (.swap _ _ _)
theorem Rm.mem {p : Addr × Obj} {l l' : List (Addr × Obj)} (x : Rm p l l') : p ∈ l := x.perm.mem_iff.mpr (.head _)
section
variable {X : List Addr} {h₀ h h' : Heap} {news rest n2 : List (Addr × Obj)}
theorem Led.start (h : Heap) : Led X h h [] := ⟨fun _ _ _ e => e, Nat.le_refl _, fun _ hp => (nomatch hp), .nil⟩
theorem Led.start1 {h : Heap} {a : Addr} {o : Obj} (e : h.get? a = some o) : Led [a] h h [(a, o)] := ⟨fun _ _ _ e => e, Nat.le_refl _, fun p hp => by cases List.mem_singleton.mp hp; exact ⟨e, .inr (.head _)⟩, by simp⟩
theorem Led.at (D : Led X h₀ h news) {a : Addr} {o : Obj} (hm : (a, o) ∈ news) : h.get? a = some o := (D.nw _ hm).1
theorem Led.apart (D : Led X h₀ h news) {p : Addr × Obj} (hp : p ∈ news) {b : Addr} {ob : Obj} (hb : b ∉ X) (e : h₀.get? b = some ob) : b ≠ p.1 := fun z => by
  subst z
  rcases (D.nw _ hp).2 with q | q
  · exact Nat.lt_irrefl _ (Nat.lt_of_lt_of_le (Heap.lt_size e) q)
  · exact hb q
theorem Led.alloc (D : Led X h₀ h news) {o : Obj} (hf : o.isFreed = false) : Led X h₀ (h.push o) ((h.objs.size, o) :: news) where
  keep := fun b o' hb e => Heap.get?_push_of_some _ (D.keep b o' hb e)
  sz := by rw [Heap.size_push]; have := D.sz; lia
  nw := fun p hp => by
    rcases List.mem_cons.mp hp with rfl | hp
    · exact ⟨Heap.get?_push_size _ hf, .inl D.sz⟩
    · exact ⟨Heap.get?_push_of_some _ (D.nw p hp).1, (D.nw p hp).2⟩
  nd := by
    rw [List.map_cons]
    refine List.nodup_cons.mpr ⟨fun hm => ?_, D.nd⟩
    obtain ⟨p, hp, e⟩ := List.mem_map.mp hm
    exact Nat.lt_irrefl _ (e ▸ Heap.lt_size (D.nw p hp).1)
theorem Led.same (D : Led X h₀ h news) {a : Addr} {o o' : Obj} (hm : Rm (a, o) news rest) (s : Heap.SameBut a h h') (e : h'.get? a = some o') : Led X h₀ h' ((a, o') :: rest) where
  keep := fun b ob hb eb => (s.2 b (D.apart hm.mem hb eb)).trans (D.keep b ob hb eb)
  sz := by rw [s.1]; exact D.sz
  nw := fun p hp => by
    have nd := (hm.perm.map (·.1)).nodup_iff.mp D.nd
    rw [List.map_cons, List.nodup_cons] at nd
    rcases List.mem_cons.mp hp with rfl | hp
    · exact ⟨e, (D.nw _ hm.mem).2⟩
    · have hp' := hm.perm.mem_iff.mpr (.tail _ hp)
      have : p.1 ≠ a := fun z => nd.1 (by show a ∈ _; rw [← z]; exact List.mem_map_of_mem hp)
      exact ⟨(s.2 _ this).trans (D.nw p hp').1, (D.nw p hp').2⟩
  nd := (hm.perm.map (·.1)).nodup_iff.mp D.nd
theorem Led.update (D : Led X h₀ h news) {a : Addr} {o : Obj} {f : Obj → Obj} (hm : Rm (a, o) news rest) (hf : (f o).isFreed = false) : Led X h₀ (h.update a f) ((a, f o) :: rest) :=
  D.same hm (Heap.SameBut.update ..) (by first | exact Heap.get?_update_self f (D.at hm.mem) hf | exact Heap.get?_update_self _ (D.at hm.mem) hf)
theorem Led.drop {p : Addr × Obj} (D : Led X h₀ h news) (hm : Rm p news rest) : Led X h₀ h rest :=
  have nd := (hm.perm.map (·.1)).nodup_iff.mp D.nd
  ⟨D.keep, D.sz, fun p hp => D.nw p (hm.perm.mem_iff.mpr (.tail _ hp)), (List.nodup_cons.mp nd).2⟩
/-- a run on its own, from here on -/
theorem Led.mem (D : Led X h₀ h news) (x : Mem h h' [] n2) (sz : h.objs.size ≤ h'.objs.size) (hn : ∀ p ∈ n2, h.objs.size ≤ p.1) : Led X h₀ h' (n2 ++ news) where
  keep := fun b o hb e => x.keep b o (D.keep b o hb e) (by rw [Bool.or_eq_true]; exact .inr rfl)
  sz := Nat.le_trans D.sz sz
  nw := fun p hp => by
    rcases List.mem_append.mp hp with hp | hp
    · exact ⟨(x.nw p hp).1, .inl (Nat.le_trans D.sz (hn p hp))⟩
    · exact ⟨x.keep _ _ (D.nw p hp).1 (by rw [Bool.or_eq_true]; exact .inr rfl), (D.nw p hp).2⟩
  nd := by
    rw [List.map_append]
    refine List.nodup_append.mpr ⟨x.ord.imp fun h => Nat.ne_of_gt h, D.nd, fun a ha b hb e => ?_⟩
    subst e
    obtain ⟨p, hp, rfl⟩ := List.mem_map.mp ha
    obtain ⟨q, hq, e⟩ := List.mem_map.mp hb
    exact Nat.lt_irrefl _ (Nat.lt_of_lt_of_le (e ▸ Heap.lt_size (D.nw q hq).1) (hn p hp))
theorem Led.kx (D : Led X h₀ h news) : KX X h₀ h := ⟨D.sz, fun b o hb e => D.keep b o hb e⟩
theorem Led.ns {a : Addr} {m : Str → Option Value} (D : Led X h₀ h news) (ha : a ∉ X) (x : h₀.Ns a m) : h.Ns a m := ns_keep x D.kx ha
theorem Led.ne {a b : Addr} {o p : Obj} (D : Led X h₀ h news) (ha : Rm (a, o) news rest) (hb : (b, p) ∈ rest) : a ≠ b := by
  have nd := (ha.perm.map (·.1)).nodup_iff.mp D.nd
  rw [List.map_cons, List.nodup_cons] at nd
  exact fun e => nd.1 (by show a ∈ _; rw [e]; exact List.mem_map_of_mem (f := Prod.fst) hb)
/-- a run that keeps all -/
theorem Led.kxT (D : Led X h₀ h news) (x : KX [] h h') : Led X h₀ h' news :=
  ⟨fun b o hb e => x.all _ _ (D.keep b o hb e), Nat.le_trans D.sz x.sz, fun p hp => ⟨x.all _ _ (D.nw p hp).1, (D.nw p hp).2⟩, D.nd⟩
end

/-! ## Namespaces as lists of names -/
noncomputable def NsL (o : Obj) (l : List (Str × Value)) : Prop := ∃ es n, o = dictOf es n ∧ Paired (fun (e : DictEntry) (p : Str × Value) => (∃ t, e.key = .str p.1 t) ∧ e.val = p.2) es l
noncomputable def lput (name : Str) (v : Value) : List (Str × Value) → List (Str × Value)
  | [] => [(name, v)]
  | p :: r => if p.1 == name then (p.1, v) :: r else p :: lput name v r
noncomputable def lget (name : Str) : List (Str × Value) → Option Value
  | [] => none
  | p :: r => if p.1 == name then some p.2 else lget name r
noncomputable def ldel (name : Str) : List (Str × Value) → List (Str × Value)
  | [] => []
  | p :: r => if p.1 == name then r else p :: ldel name r
noncomputable abbrev NsP : List DictEntry → List (Str × Value) → Prop := Paired (fun (e : DictEntry) (p : Str × Value) => (∃ t, e.key = .str p.1 t) ∧ e.val = p.2)
theorem nsl_isStr {name : Str} {e : DictEntry} {p : Str × Value} (x : ∃ t, e.key = .str p.1 t) : e.key.isStr name = (p.1 == name) := x.elim fun _ h => by rw [h]; rfl
theorem nsl_noRef {es : List DictEntry} {l : List (Str × Value)} (p : NsP es l) : es.any (·.refKey) = false := by
  induction p with
  | nil => rfl
  | cons x r ih =>
    rw [List.any_cons, ih, Bool.or_false]
    unfold DictEntry.refKey
    exact x.1.elim fun _ e => by rw [e]
theorem nsl_find (name : Str) {es : List DictEntry} {l : List (Str × Value)} (p : NsP es l) : (es.find? (·.key.isStr name)).map (·.val) = lget name l := by
  induction p with
  | nil => rfl
  | @cons en q _ _ x r ih =>
    rw [List.find?_cons, lget, nsl_isStr x.1]
    cases q.1 == name
    · exact ih
    · exact congrArg some x.2
theorem nsl_look {o : Obj} {l : List (Str × Value)} (x : NsL o l) (name : Str) : nsLook name o = pure (lget name l) := by
  obtain ⟨es, n, rfl, p⟩ := x
  refine nsLook_of ?_
  rw [lookIn_dict, getL]
  have h1 := nsl_find name p
  have h2 := nsl_noRef p
  cases q : es.find? (·.key.isStr name) with
  | none => rw [q] at h1; simp only [Option.map_none] at h1; rw [← h1, h2]; rfl
  | some e => rw [q] at h1; simp only [Option.map_some] at h1; rw [← h1]
theorem nsl_putL (name : Str) (hs : Int) (t : Tok) (v : Value) {es : List DictEntry} {l : List (Str × Value)} (p : NsP es l) : NsP (putL name hs (.str name t) v es) (lput name v l) := by
  induction p with
  | nil => exact .cons ⟨⟨t, rfl⟩, rfl⟩ .nil
  | @cons en q _ _ x r ih =>
    rw [putL, lput, nsl_isStr x.1]
    cases q.1 == name
    · exact .cons x ih
    · exact .cons ⟨x.1, rfl⟩ r
theorem nsl_put {o : Obj} {l : List (Str × Value)} (x : NsL o l) (name : Str) (hs : Int) (t : Tok) (v : Value) : NsL (Obj.putName name hs (.str name t) v o) (lput name v l) := by
  obtain ⟨es, n, rfl, p⟩ := x
  exact ⟨_, _, putName_dict .., nsl_putL name hs t v p⟩
theorem nsl_any (name : Str) {es : List DictEntry} {l : List (Str × Value)} (p : NsP es l) : es.any (·.key.isStr name) = (lget name l).isSome := by
  induction p with
  | nil => rfl
  | @cons en q _ _ x r ih =>
    rw [List.any_cons, lget, nsl_isStr x.1, ih]
    cases q.1 == name <;> rfl
theorem nsl_has {o : Obj} {l : List (Str × Value)} (x : NsL o l) (name : Str) : nsHas name o = pure (lget name l).isSome := by
  obtain ⟨es, n, rfl, p⟩ := x
  rw [nsHas_eq]
  unfold nsHasByArray
  dsimp only
  rw [← Array.any_toList, ← Array.any_toList, nsl_any name p, nsl_noRef p]
  cases (lget name l).isSome <;> rfl
theorem nsl_drop (name : Str) {es : List DictEntry} {l : List (Str × Value)} (p : NsP es l) : NsP (match es.findIdx? (·.key.isStr name) with | some i => es.eraseIdx i | none => es) (ldel name l) := by
  induction p with
  | nil => exact .nil
  | @cons en q es l x r ih =>
    rw [List.findIdx?_cons, ldel, nsl_isStr x.1]
    cases q.1 == name
    · simp only [Bool.false_eq_true, if_false]
      cases q : es.findIdx? (·.key.isStr name) with
      | none => rw [q] at ih; exact .cons x ih
      | some i => rw [q] at ih; exact .cons x ih
    · exact r
theorem nsl_del {o : Obj} {l : List (Str × Value)} (x : NsL o l) (name : Str) : NsL (Obj.dropName name o) (ldel name l) := by
  obtain ⟨es, n, rfl, p⟩ := x
  have ih := nsl_drop name p
  rw [Obj.dropName_eq]
  unfold Obj.dropNameByArray dictOf
  simp only [List.findIdx?_toArray]
  cases q : es.findIdx? (·.key.isStr name) with
  | none => rw [q] at ih; exact ⟨es, n, rfl, ih⟩
  | some i =>
    rw [q] at ih
    refine ⟨es.eraseIdx i, n + 1, ?_, ih⟩
    simp
theorem nsl_freed {o : Obj} {l : List (Str × Value)} (x : NsL o l) : o.isFreed = false := by
  obtain ⟨es, n, rfl, p⟩ := x; rfl

section
variable {α : Type} {prog : Program} {w : World} {A : Around} {Q : α → Shared → Prop} {E : Value → Shared → Prop} {X : List Addr} {h₀ h : Heap} {g : Array GenState} {d : Drawn} {tk : Nat} {os : OsState} {news rest : List (Addr × Obj)}
theorem nd_at {M : Model} {p : Pos} {k : Unit → Sem α} {s : Shared} (x : wpAny M A (k ()) Q E s) : wpAny M A (.at p k) Q E s := wpAny_bind (m := standAt p) (f := k) (wpAny_standAt x)
theorem c_load {M : Model} {a : Addr} {o : Obj} (D : Led X h₀ h news) {q : Option Value} {k : Obj → Sem α} (hi : (a, o) ∈ news) (x : wpAny M A (k o) Q E ⟨h, g, d, tk, os⟩) : wpAny M A (.load a q k) Q E ⟨h, g, d, tk, os⟩ := nd_load (D.at hi) x
theorem c_alloc {M : Model} {o : Obj} {k : Addr → Sem α} (D : Led X h₀ h news) (hf : o.isFreed = false) (x : ∀ a h', Led X h₀ h' ((a, o) :: news) → wpAny M A (k a) Q E ⟨h', g, d, tk, os⟩) : wpAny M A (.alloc o k) Q E ⟨h, g, d, tk, os⟩ := nd_alloc (x _ _ (D.alloc hf))
theorem c_update {M : Model} {a : Addr} {o : Obj} {q : Option Value} {f : Obj → Obj} {k : Unit → Sem α} (D : Led X h₀ h news) (hi : Rm (a, o) news rest) (hf : (f o).isFreed = false) (x : ∀ h', Led X h₀ h' ((a, f o) :: rest) → wpAny M A (k ()) Q E ⟨h', g, d, tk, os⟩) :
    wpAny M A (.update a q f k) Q E ⟨h, g, d, tk, os⟩ := wpAny_bind (m := updatePart a q f) (f := k) (wpAny_updatePart (D.at hi.mem) (x _ (D.update hi hf)))
theorem c_nsGet {M : Model} {a : Addr} {o : Obj} {l : List (Str × Value)} {name : Str} {Q : Option Value → Shared → Prop} (D : Led X h₀ h news) (hi : (a, o) ∈ news) (N : NsL o l) (x : Q (lget name l) ⟨h, g, d, tk, os⟩) : wpAny M A (nsGet a name) Q E ⟨h, g, d, tk, os⟩ := by
  unfold nsGet
  refine wpAny_bind (wpAny_loadPart (D.at hi) ?_)
  rw [nsl_look N]; exact wpAny_pure x
theorem c_nsSet {a : Addr} {o : Obj} {l : List (Str × Value)} {name : Str} {v : Value} {Q : Unit → Shared → Prop} (D : Led X h₀ h news) (hi : Rm (a, o) news rest) (N : NsL o l)
    (x : ∀ o' h', NsL o' (lput name v l) → Led X h₀ h' ((a, o') :: rest) → Q () ⟨h', g, d, tk + 1, os⟩) : wpAny (model prog w) A (nsSet a name v) Q E ⟨h, g, d, tk, os⟩ := by
  unfold nsSet
  refine wpAny_bind (wpAny_bind (wpAny_askSetting (wpAny_pure (wpAny_bind (wpAny_mkText (wpAny_bind (wpAny_loadPart (D.at hi.mem) ?_)))))))
  have c : ∃ es n, o.data = .dict es n ∧ aRefKeyMayBeTheName name es = false := by
    obtain ⟨es, n, rfl, p⟩ := N
    refine ⟨es.toArray, n, rfl, ?_⟩
    rw [aRefKeyMayBeTheName_at, ← Array.any_toList, ← Array.any_toList]
    rw [nsl_noRef p, Bool.and_false]
  obtain ⟨es, n, e1, e2⟩ := c
  rw [e1]
  dsimp only
  rw [e2]
  exact wpAny_updatePart (D.at hi.mem) (x _ _ (nsl_put N name _ _ v) (D.update hi (nsl_freed (nsl_put N name _ _ v))))
theorem c_nsDel {M : Model} {a : Addr} {o : Obj} {l : List (Str × Value)} {name : Str} {Q : Bool → Shared → Prop} (D : Led X h₀ h news) (hi : Rm (a, o) news rest) (N : NsL o l) (hh : (lget name l).isSome = true)
    (x : ∀ o' h', NsL o' (ldel name l) → Led X h₀ h' ((a, o') :: rest) → Q true ⟨h', g, d, tk, os⟩) : wpAny M A (nsDel a name) Q E ⟨h, g, d, tk, os⟩ := by
  unfold nsDel
  refine wpAny_bind (wpAny_loadPart (D.at hi.mem) (wpAny_bind ?_))
  rw [nsl_has N, hh]
  refine wpAny_pure ?_
  rw [if_pos rfl]
  exact wpAny_bind (wpAny_updatePart (D.at hi.mem) (wpAny_pure (x _ _ (nsl_del N name) (D.update hi (nsl_freed (nsl_del N name))))))
end
/-! ## What was not there, is new -/
noncomputable def Gr (h h' : Heap) : Prop := h.objs.size ≤ h'.objs.size ∧ ∀ b, b < h.objs.size → h.get? b = none → h'.get? b = none
theorem Gr.refl (h : Heap) : Gr h h := ⟨Nat.le_refl _, fun _ _ e => e⟩
theorem Gr.trans {a b c : Heap} (x : Gr a b) (y : Gr b c) : Gr a c := ⟨Nat.le_trans x.1 y.1, fun i hi e => y.2 i (Nat.lt_of_lt_of_le hi x.1) (x.2 i hi e)⟩
theorem Gr.push (h : Heap) (o : Obj) : Gr h (h.push o) := ⟨by rw [Heap.size_push]; lia, fun b hb e => by rw [Heap.get?_push_ne _ _ _ (Nat.ne_of_lt hb)]; exact e⟩
theorem Gr.update (h : Heap) (a : Addr) (f : Obj → Obj) {o : Obj} (ho : h.get? a = some o) : Gr h (h.update a f) := ⟨by rw [Heap.size_update]; exact Nat.le_refl _, fun b hb e => by
  have : b ≠ a := fun z => by subst z; rw [ho] at e; cases e
  rw [Heap.get?_update_ne _ _ _ _ this]; exact e⟩
theorem runs_gr {M : Model} {Γ : Ctx} {p : Pos} {t : Sem PySem.Fin} {fs : List Frame} {s s' : Shared} {e : End} (r : Runs M Γ p t fs s e s') : Gr s.heap s'.heap := by
  induction r with
  | done | raise | yield => exact Gr.refl _
  | update ho _ ih => obtain ⟨o, ho⟩ := Option.isSome_iff_exists.mp ho; exact (Gr.update _ _ _ ho).trans ih
  | alloc _ ih => exact (Gr.push _ _).trans ih
  | call _ _ i j | segRet _ _ i j => exact i.trans j
  | resumeFresh _ _ _ _ i j | resumeSuspended _ _ _ _ i j => exact Gr.trans (show Gr _ _ from i) j
  | segGen _ _ i j => exact i.trans (show Gr _ _ from j)
  | segSuspGen _ _ _ _ i j => exact i.trans (show Gr _ _ from j)
  | _ => assumption
theorem wakes_gr {M : Model} {Γ : Ctx} {p : Pos} {g : Nat} {r : Resume} {s s' : Shared} {res : GenResult} (x : Wakes M Γ p g r s res s') : Gr s.heap s'.heap := by
  unfold Wakes at x
  split at x
  · exact x.elim
  · split at x
    · obtain ⟨e, s₁, a, _, _, rfl⟩ := x; exact (runs_gr a : _)
    · obtain ⟨_, rfl⟩ := x; exact Gr.refl _
    · obtain ⟨_, rfl⟩ := x; exact Gr.refl _
  · obtain ⟨e, s₁, a, _, _, rfl⟩ := x; exact (runs_gr a : _)
  · obtain ⟨_, rfl⟩ := x; exact Gr.refl _
  · obtain ⟨_, rfl⟩ := x; exact Gr.refl _
theorem wp_gr {α : Type} {M : Model} {Γ : Ctx} (t : Sem α) {Q : α → Pos → Shared → Prop} {E : Value → Pos → Shared → Prop} :
    ∀ {p : Pos} {s : Shared}, Sem.wp M Γ t Q E p s → Sem.wp M Γ t (fun a p' s' => Gr s.heap s'.heap ∧ Q a p' s') E p s := by
  induction t with
  | pure a => exact fun q => ⟨Gr.refl _, q⟩
  | raise => exact fun q => q
  | unsupported | finish | yield | fork | await | register => exact fun q => q
  | update a _ f k ih =>
    intro p s ⟨ho', y⟩
    obtain ⟨o, ho⟩ := Option.isSome_iff_exists.mp ho'
    exact ⟨ho', Sem.wp_mono M Γ _ (fun a p' s' z => ⟨(Gr.update _ _ _ ho).trans z.1, z.2⟩) (fun _ _ _ z => z) _ _ (ih () y)⟩
  | alloc o k ih => exact fun y => Sem.wp_mono M Γ _ (fun a p' s' z => ⟨(Gr.push _ _).trans z.1, z.2⟩) (fun _ _ _ z => z) _ _ (ih _ y)
  | load a _ k ih | genState a k ih => exact fun ⟨o, x, y⟩ => ⟨o, x, ih _ y⟩
  | choose _ _ k ih => exact fun ⟨x, y⟩ => ⟨x, ih _ y⟩
  | call c h g l k ih =>
    rintro p s ⟨r, s₁, x, y⟩
    exact ⟨r, s₁, x, Sem.wp_mono M Γ _ (fun a p' s' z => ⟨(runs_gr x).trans z.1, z.2⟩) (fun _ _ _ z => z) _ _ (ih r y)⟩
  | resume g r l k ih =>
    rintro p s ⟨res, s₁, x, y⟩
    exact ⟨res, s₁, x, Sem.wp_mono M Γ _ (fun a p' s' z => ⟨(wakes_gr x).trans z.1, z.2⟩) (fun _ _ _ z => z) _ _ (ih res y)⟩
  | rule _ k ih | «at» _ k ih | loadIfAlive _ k ih | point _ k ih | fresh k ih | ask k ih | os _ _ k ih | handled _ k ih | newGen _ k ih | stack k ih | thread k ih => exact fun y => ih _ y
theorem wpAny_gr {α : Type} {M : Model} {A : Around} {t : Sem α} {Q : α → Shared → Prop} {E : Value → Shared → Prop} {s : Shared} (x : wpAny M A t (fun a s' => Gr s.heap s'.heap → Q a s') E s) : wpAny M A t Q E s := by
  intro Γ p hΓ
  exact Sem.wp_mono M Γ _ (fun a p' s' z => z.2 z.1) (fun _ _ _ z => z) _ _ (wp_gr t (x Γ p hΓ))
theorem Led.memG {X : List Addr} {h₀ h h' : Heap} {news n2 : List (Addr × Obj)} (D : Led X h₀ h news) (x : Mem h h' [] n2) (g : Gr h h') : Led X h₀ h' (n2 ++ news) :=
  D.mem x g.1 fun p hp => by
    rcases Nat.lt_or_ge p.1 h.objs.size with hl | hl
    · have := g.2 p.1 hl (x.nw p hp).2
      rw [(x.nw p hp).1] at this
      cases this
    · exact hl
theorem looks_ns {M : Model} {h : Heap} {a : Addr} {m : Str → Option Value} {name : Str} {r : Option Value} (x : h.Ns a m) (e : m name = r) : Looks M h (nsGet a name) r := by
  obtain ⟨o, es, ep, ho, hd, r1, r2⟩ := x
  intro A Q E s k q
  refine wpAny_nsGet (m := m) ⟨o, es, ep, k _ _ ho, hd, r1, r2⟩ ?_
  rw [e]; exact q
end

-- D1
section
open PySem PySem.W PyProof.Rows PySem.Calls
open PySem.W.X (Mem tableObj hasCls away)
noncomputable def bmObj : Obj := { cls := .type "builtin_function_or_method", data := .fields #[.builtin "type.__prepare__", .type "type"] }
section
variable {prog : Program} {w : World} {A : Around} {E : Value → Shared → Prop} {X : List Addr} {h₀ h : Heap} {g : Array GenState} {d : Drawn} {tk : Nat} {os : OsState} {news : List (Addr × Obj)}
theorem prep1 {Q : Option Value → Shared → Prop} (hA : A.handled = none) (hD : Led X h₀ h news) (hx : ∀ a h' tk', Led X h₀ h' ((a, bmObj) :: news) → Q (some (.ref a)) ⟨h', g, d, tk', os⟩) : wpAny (model prog w) A (getAttr? (.type "type") "__prepare__") Q E ⟨h, g, d, tk, os⟩ := by
  refine wpAny_gr ?_
  repeat lk
  x_run
theorem prep2 {b : Addr} {t : Tok} {p : Value} {Q : Value → Shared → Prop} (hA : A.handled = none) (hD : Led X h₀ h news) (hb : (b, bmObj) ∈ news) (hx : ∀ a h' tk', Led X h₀ h' ((a, dictOf [] 0) :: news) → Q (.ref a) ⟨h', g, d, tk', os⟩) : wpAny (model prog w) A (call (.ref b) [.str "K" t, p] []) Q E ⟨h, g, d, tk, os⟩ := by
  have hob := hD.at hb
  unfold bmObj at hob
  refine wpAny_gr ?_
  x_run
end
end

-- D2
section
open PySem PySem.W PyProof.Rows PySem.Calls
open PySem.W.X (Mem tableObj hasCls away)
section
variable {X : List Addr} {h₀ h h' : Heap} {news rest : List (Addr × Obj)}
theorem Led.ext (D : Led X h₀ h news) {a : Addr} {o o' : Obj} (hm : Rm (a, o) news rest) (hx : Heap.ExtBut a h h') (sz : h.objs.size ≤ h'.objs.size) (e : h'.get? a = some o') : Led X h₀ h' ((a, o') :: rest) where
  keep := fun b ob hb eb => hx b ob (D.apart hm.mem hb eb) (D.keep b ob hb eb)
  sz := Nat.le_trans D.sz sz
  nw := fun p hp => by
    have nd := (hm.perm.map (·.1)).nodup_iff.mp D.nd
    rw [List.map_cons, List.nodup_cons] at nd
    rcases List.mem_cons.mp hp with rfl | hp
    · exact ⟨e, (D.nw _ hm.mem).2⟩
    · have hp' := hm.perm.mem_iff.mpr (.tail _ hp)
      have : p.1 ≠ a := fun z => nd.1 (by show a ∈ _; rw [← z]; exact List.mem_map_of_mem hp)
      exact ⟨hx _ _ this (D.nw p hp').1, (D.nw p hp').2⟩
  nd := (hm.perm.map (·.1)).nodup_iff.mp D.nd
theorem Led.more (D : Led X h₀ h news) {a : Addr} {o : Obj} (e : h.get? a = some o) (ha : h₀.objs.size ≤ a) (hn : ∀ p ∈ news, p.1 < a) : Led X h₀ h ((a, o) :: news) :=
  ⟨D.keep, D.sz, fun p hp => (List.mem_cons.mp hp).elim (fun z => z ▸ ⟨e, .inl ha⟩) (D.nw p), by
    rw [List.map_cons]
    refine List.nodup_cons.mpr ⟨fun hm => ?_, D.nd⟩
    obtain ⟨p, hp, z⟩ := List.mem_map.mp hm
    exact Nat.ne_of_lt (hn p hp) z⟩
theorem Led.lt (D : Led X h₀ h news) : ∀ p ∈ news, p.1 < h.objs.size := fun p hp => Heap.lt_size (D.nw p hp).1
end
/-- a code object whose table lies at P -/
noncomputable def CodeO (oc : Obj) (P : Addr) : Prop :=
  ∃ vs file tf flags tg inF text tt, oc.cls = .type "code" ∧ oc.data = .fields vs ∧ vs[11]? = some (.ref P) ∧ vs.getD 11 .none = .ref P ∧ vs.getD 18 .none = .str file tf ∧
    vs.getD 7 .none = .int flags tg ∧ vs.getD 9 .none = .bool inF ∧ vs.getD 10 .none = .int text tt
noncomputable def CodeQ (oc : Obj) (qual : Str) : Prop := ∃ vs t, oc.data = .fields vs ∧ vs[1]? = some (.str qual t)
theorem codeQ_of {h : Heap} {c : Addr} {oc : Obj} {qual : Str} (x : h.CodeRec (.ref c) qual) (e : h.get? c = some oc) : CodeQ oc qual := by
  obtain ⟨c', o, vs, t, e', ho, r1, r2⟩ := x
  cases e'
  rw [e] at ho; cases ho
  exact ⟨vs, t, r1, r2⟩
theorem CodeQ.rec_ {h : Heap} {c : Addr} {oc : Obj} {qual : Str} (x : CodeQ oc qual) (e : h.get? c = some oc) : h.CodeRec (.ref c) qual := let ⟨vs, t, a, b⟩ := x; ⟨c, oc, vs, t, rfl, e, a, b⟩
theorem CodeO.hd {h : Heap} {c P : Addr} {oc : Obj} (x : CodeO oc P) (e : h.get? c = some oc) (ne : c ≠ P) : CodeHd h c P :=
  ⟨oc, x.imp fun vs => Exists.imp fun file => Exists.imp fun tf => Exists.imp fun flags => Exists.imp fun tg => Exists.imp fun inF => Exists.imp fun text => Exists.imp fun tt y => ⟨e, y.1, y.2.1, y.2.2.1, y.2.2.2.1, y.2.2.2.2.1, y.2.2.2.2.2.1, y.2.2.2.2.2.2.1, y.2.2.2.2.2.2.2, ne⟩⟩
theorem CodeHd.use {h : Heap} {c P : Addr} {G : Prop} (C : CodeHd h c P) (k : ∀ (o : Obj) (vs : Array Value) (file : Str) (tf : Tok) (flags : Int) (tg : Tok) (inF : Bool) (text : Int) (tt : Tok), h.get? c = some o → o.data = .fields vs → vs.getD 11 .none = .ref P → vs.getD 18 .none = .str file tf →
    vs.getD 7 .none = .int flags tg → vs.getD 9 .none = .bool inF → vs.getD 10 .none = .int text tt → G) : G :=
  let ⟨o, vs, file, tf, flags, tg, inF, text, tt, a, _, b, _, c, d, e, f, g, _⟩ := C; k o vs file tf flags tg inF text tt a b c d e f g
section
variable {M : Model} {A : Around} {E : Value → Shared → Prop} {X : List Addr} {h₀ h : Heap} {g : Array GenState} {d : Drawn} {tk : Nat} {os : OsState} {news rest : List (Addr × Obj)} {Q : Value → Shared → Prop} {env : Env} {pos : Pos} {c P : Addr} {ps : Array Value}
theorem c_classCode {line : Nat} {name qual : Str} {scope : Scope} (D : Led X h₀ h news) (hc : env.code = .ref c) (C : CodeHd h c P) (hP : Rm (P, tabObj ps) news rest) (ht : TriplesOk ps.toList) (hnf : codeAmong pos ps.toList = none)
    (x : ∀ c' P' oc h' tk', Led X h₀ h' ((c', oc) :: (P', tabObj #[]) :: (P, tabObj (ps ++ #[rawInt pos.line, rawInt pos.col, .ref c'])) :: rest) → CodeO oc P' → CodeQ oc qual → c' ≠ P' → Q (.ref c') ⟨h', g, d, tk', os⟩) :
    wpAny M A (classCode env pos line name qual scope) Q E ⟨h, g, d, tk, os⟩ := by
  refine CodeHd.use C fun o vs file tf flags tg inF text tt ho hd h11 h18 h7 h9 h10 => ?_
  have hop := D.at hP.mem
  unfold classCode codeAt
  rw [hc, if_neg (show ¬ ((Value.ref c == Value.none) = true) from Bool.false_ne_true)]
  refine wpAny_bind (wpAny_fieldsOf ho hd ?_)
  rw [h11]
  refine wpAny_bind (wpAny_fieldsOf hop rfl ?_)
  rw [hnf, h18, h7, h9, h10]
  refine wpAny_bind (wpAny_gr (wpAny_newCodeX fun c' P' h' tk' hk hc' hP' hcode' htab' hrec' G => ?_))
  have hop' := hk _ _ hop
  refine wpAny_bind (wpAny_updateFieldsOfTheText hop' rfl ?_)
  have hnew : Obj.mapFields (fun vs => if (codeAmong pos vs.toList).isSome = true then vs else vs ++ #[rawInt pos.line, rawInt pos.col, .ref c']) (tabObj ps) = tabObj (ps ++ #[rawInt pos.line, rawInt pos.col, .ref c']) := by
    simp only [Obj.mapFields, hnf]; rfl
  have hget := Heap.get?_update_self (h := h') (fun o => Obj.mapFields (fun vs => if (codeAmong pos vs.toList).isSome = true then vs else vs ++ #[rawInt pos.line, rawInt pos.col, .ref c']) o) hop' (by rw [hnew]; rfl)
  rw [hnew] at hget
  refine wpAny_bind (wpAny_fieldsOf hget rfl ?_)
  have hl : (ps ++ #[rawInt pos.line, rawInt pos.col, Value.ref c']).toList = ps.toList ++ [rawInt pos.line, rawInt pos.col, .ref c'] := by simp
  rw [hl, codeAmong_snoc _ ht hnf]
  refine wpAny_pure ?_
  obtain ⟨o2, vs2, file2, tf2, flags2, tg2, inF2, text2, tt2, _, ho2, hd2, h112, h182, h72, h92, h102, _, _, _, hne2⟩ := hcode'
  obtain ⟨⟨o3, vs3, ho3, hcl3, hd3, h113⟩, htP⟩ := htab'
  rw [ho2] at ho3; cases ho3
  rw [hd2] at hd3; cases hd3
  have sb : Heap.SameBut P h' (h'.update P (fun o => Obj.mapFields (fun vs => if (codeAmong pos vs.toList).isSome = true then vs else vs ++ #[rawInt pos.line, rawInt pos.col, .ref c']) o)) := Heap.SameBut.update ..
  have hlt := D.lt
  have cP : c' ≠ P := Nat.ne_of_gt (Nat.lt_of_lt_of_le (hlt _ hP.mem) hc')
  have pP : P' ≠ P := Nat.ne_of_gt (Nat.lt_of_lt_of_le (hlt _ hP.mem) hP')
  have D1 : Led X h₀ h' news := D.kxT (KX.of_all G.1 hk)
  have D2 := D1.same hP sb hget
  have hs : h₀.objs.size ≤ h.objs.size := D.sz
  have lt2 : ∀ p ∈ (P, tabObj (ps ++ #[rawInt pos.line, rawInt pos.col, Value.ref c'])) :: rest, p.1 < h.objs.size := fun p hp => by
    rcases List.mem_cons.mp hp with rfl | hp
    · exact (hlt (P, tabObj ps) hP.mem : P < _)
    · exact hlt _ (hP.perm.mem_iff.mpr (.tail _ hp))
  have D3 := D2.more (a := P') (o := tabObj #[]) ((sb.2 _ pP).trans htP) (Nat.le_trans hs hP') fun p hp => Nat.lt_of_lt_of_le (lt2 p hp) hP'
  have eC := (sb.2 _ cP).trans ho2
  have D4 : Led X h₀ (h'.update P (fun o => Obj.mapFields (fun vs => if (codeAmong pos vs.toList).isSome = true then vs else vs ++ #[rawInt pos.line, rawInt pos.col, .ref c']) o)) ((c', o2) :: (P', tabObj #[]) :: (P, tabObj (ps ++ #[rawInt pos.line, rawInt pos.col, Value.ref c'])) :: rest) := by
    refine ⟨D3.keep, D3.sz, fun p hp => (List.mem_cons.mp hp).elim (fun z => z ▸ ⟨eC, .inl (Nat.le_trans hs hc')⟩) (D3.nw p), ?_⟩
    rw [List.map_cons]
    refine List.nodup_cons.mpr ⟨fun hm => ?_, D3.nd⟩
    rcases List.mem_cons.mp hm with e | hm
    · exact hne2 e
    · obtain ⟨p, hp, z⟩ := List.mem_map.mp hm
      exact Nat.ne_of_lt (Nat.lt_of_lt_of_le (lt2 p hp) hc') z
  exact x c' P' o2 _ _ D4 ⟨vs2, file2, tf2, flags2, tg2, inF2, text2, tt2, hcl3, hd2, h113, h112, h182, h72, h92, h102⟩ (codeQ_of hrec' ho2) hne2
theorem c_makeFunction {mg : Str → Option Value} {line : Nat} {name qual : Str} {params : Arguments} {body : List Stmt} {scope : Scope} {clos : List (Str × Addr)} (D : Led X h₀ h news) (hc : env.code = .ref c) (hcl : closureFor scope env = pure clos) (hge : env.globals = 3) (hg : h.Ns 3 mg) (hb : h.BuiltinsAt mg P)
    (C : CodeHd h c P) (hP : Rm (P, tabObj ps) news rest) (hgP : 3 ≠ P) (ht : TriplesOk ps.toList) (hnf : codeAmong pos ps.toList = none)
    (x : ∀ f c' ctv doc oc h' tk', Led X h₀ h' ((f, fnMade name qual params body scope clos doc ((mg "__name__").getD .none) c' ctv) :: (c', oc) :: (P, tabObj (ps ++ #[rawInt pos.line, rawInt pos.col, .ref c'])) :: rest) → CodeQ oc qual → Q (.ref f) ⟨h', g, d, tk', os⟩) :
    wpAny M A (makeFunction name qual params (.stmts body) scope env [] [] [] pos line) Q E ⟨h, g, d, tk, os⟩ := by
  refine makeFunction_K (s := ⟨h, g, d, tk, os⟩) hcl hge hg hc C (D.at hP.mem) ht hnf hgP hb fun c' ctv doc h' tk' hx hc' hlt hrec htab => ?_
  have hlt0 := D.lt
  have hs : h₀.objs.size ≤ h.objs.size := D.sz
  have D1 := D.ext hP hx (Nat.le_trans hc' (Nat.le_of_lt hlt)) htab
  have lt2 : ∀ p ∈ (P, tabObj (ps ++ #[rawInt pos.line, rawInt pos.col, Value.ref c'])) :: rest, p.1 < h.objs.size := fun p hp => by
    rcases List.mem_cons.mp hp with rfl | hp
    · exact (hlt0 (P, tabObj ps) hP.mem : P < _)
    · exact hlt0 _ (hP.perm.mem_iff.mpr (.tail _ hp))
  obtain ⟨c2, oc, vs, t, e2, ho, r1, r2⟩ := hrec
  cases e2
  have D2 := D1.more (a := c') (o := oc) ho (Nat.le_trans hs hc') fun p hp => Nat.lt_of_lt_of_le (lt2 p hp) hc'
  exact x _ c' ctv doc oc _ _ (D2.alloc rfl) ⟨vs, t, r1, r2⟩
end
/-- a table whose codes lie above a line -/
noncomputable def TabLt (ps : Array Value) (n : Nat) : Prop := TriplesOk ps.toList ∧ ∀ pos : Pos, n ≤ pos.line → codeAmong pos ps.toList = none
theorem TabLt.nil (n : Nat) : TabLt #[] n := ⟨trivial, fun _ _ => rfl⟩
theorem among_none {pos : Pos} {a b : Nat} {c : Value} (l : List Value) (h : TriplesOk l) (ha : a ≠ pos.line) (e : codeAmong pos l = none) : codeAmong pos (l ++ [rawInt a, rawInt b, c]) = none := by
  fun_induction TriplesOk l with
  | case1 =>
    simp only [List.nil_append, rawInt, codeAmong]
    rw [if_neg]
    intro z
    rw [Bool.and_eq_true] at z
    have := beq_iff_eq.mp z.1
    lia
  | case2 p t q u x rest ih =>
    simp only [List.cons_append, codeAmong] at e ⊢
    split at e
    · cases e
    · rename_i hc
      rw [if_neg hc]; exact ih h e
  | case3 => exact h.elim
theorem TabLt.add {ps : Array Value} {n m : Nat} {pos : Pos} {c : Value} (x : TabLt ps n) (hm : pos.line < m) (hn : n ≤ m) : TabLt (ps ++ #[rawInt pos.line, rawInt pos.col, c]) m := by
  have e : (ps ++ #[rawInt pos.line, rawInt pos.col, c]).toList = ps.toList ++ [rawInt pos.line, rawInt pos.col, c] := by simp
  refine ⟨by rw [e]; exact TriplesOk_snoc _ _ _ _ x.1, fun p hp => ?_⟩
  rw [e]
  exact among_none _ x.1 (by lia) (x.2 p (by lia))
end

-- D12
section
open PySem PySem.W PyProof.Rows PySem.Calls
open PySem.W.X (Mem tableObj hasCls away)
section
variable {α : Type} {M : Model} {A : Around} {Q : α → Shared → Prop} {E : Value → Shared → Prop} {s : Shared}
theorem c_pos {c : Prop} [Decidable c] {a b : Sem α} (hc : c) (x : wpAny M A a Q E s) : wpAny M A (if c then a else b) Q E s := by rw [if_pos hc]; exact x
theorem c_posB {b : Bool} {x y : Sem α} (hc : b = true) (z : wpAny M A x Q E s) : wpAny M A (if b = true then x else y) Q E s := by rw [if_pos hc]; exact z
theorem c_negB {b : Bool} {x y : Sem α} (hc : b = false) (z : wpAny M A y Q E s) : wpAny M A (if b = true then x else y) Q E s := by rw [hc, if_neg (by decide)]; exact z
theorem c_eqArg {β : Type} {R : β → Shared → Prop} {a a' : β} (e : a = a') (x : R a' s) : R a s := e ▸ x
theorem c_neg {c : Prop} [Decidable c] {a b : Sem α} (hc : ¬ c) (x : wpAny M A b Q E s) : wpAny M A (if c then a else b) Q E s := by rw [if_neg hc]; exact x
end
/-! ## the ledger's steps as the walker takes them: what it closes by itself stands behind -/
section
variable {α : Type} {prog : Program} {w : World} {M : Model} {A : Around} {Q : α → Shared → Prop} {E : Value → Shared → Prop} {X : List Addr} {h₀ h : Heap} {g : Array GenState} {d : Drawn} {tk : Nat} {os : OsState} {news rest : List (Addr × Obj)} {a : Addr} {o : Obj}
theorem z_load {q : Option Value} {k : Obj → Sem α} (x : wpAny M A (k o) Q E ⟨h, g, d, tk, os⟩) (D : Led X h₀ h news := by assumption) (hi : (a, o) ∈ news := by walk_at "memb"; first | done | fail) : wpAny M A (.load a q k) Q E ⟨h, g, d, tk, os⟩ := c_load D hi x
theorem z_alloc {k : Addr → Sem α} (x : ∀ a h', Led X h₀ h' ((a, o) :: news) → wpAny M A (k a) Q E ⟨h', g, d, tk, os⟩) (D : Led X h₀ h news := by assumption) (hf : o.isFreed = false := by with_unfolding_all exact rfl) : wpAny M A (.alloc o k) Q E ⟨h, g, d, tk, os⟩ := c_alloc D hf x
theorem z_update {q : Option Value} {f : Obj → Obj} {k : Unit → Sem α} (x : ∀ h', Led X h₀ h' ((a, f o) :: rest) → wpAny M A (k ()) Q E ⟨h', g, d, tk, os⟩) (D : Led X h₀ h news := by assumption) (hi : Rm (a, o) news rest := by walk_at "rm"; first | done | fail) (hf : (f o).isFreed = false := by with_unfolding_all exact rfl) :
    wpAny M A (.update a q f k) Q E ⟨h, g, d, tk, os⟩ := c_update D hi hf x
end
section
variable {prog : Program} {w : World} {M : Model} {A : Around} {E : Value → Shared → Prop} {X : List Addr} {h₀ h : Heap} {g : Array GenState} {d : Drawn} {tk : Nat} {os : OsState} {news rest : List (Addr × Obj)} {a : Addr} {o : Obj} {l : List (Str × Value)} {name : Str}
theorem z_nsGet {Q : Option Value → Shared → Prop} (x : Q (lget name l) ⟨h, g, d, tk, os⟩) (D : Led X h₀ h news := by assumption) (hi : (a, o) ∈ news := by walk_at "memb"; first | done | fail) (N : NsL o l := by with_unfolding_all assumption) : wpAny M A (nsGet a name) Q E ⟨h, g, d, tk, os⟩ := c_nsGet D hi N x
theorem z_nsSet {v : Value} {Q : Unit → Shared → Prop} (x : ∀ o' h', NsL o' (lput name v l) → Led X h₀ h' ((a, o') :: rest) → Q () ⟨h', g, d, tk + 1, os⟩) (D : Led X h₀ h news := by assumption) (hi : Rm (a, o) news rest := by walk_at "rm"; first | done | fail) (N : NsL o l := by with_unfolding_all assumption) : wpAny (model prog w) A (nsSet a name v) Q E ⟨h, g, d, tk, os⟩ := c_nsSet D hi N x
theorem z_nsDel {Q : Bool → Shared → Prop} (x : ∀ o' h', NsL o' (ldel name l) → Led X h₀ h' ((a, o') :: rest) → Q true ⟨h', g, d, tk, os⟩) (D : Led X h₀ h news := by assumption) (hi : Rm (a, o) news rest := by walk_at "rm"; first | done | fail) (N : NsL o l := by with_unfolding_all assumption) (hh : (lget name l).isSome = true := by with_unfolding_all exact rfl) :
    wpAny M A (nsDel a name) Q E ⟨h, g, d, tk, os⟩ := c_nsDel D hi N hh x
end
/-! ## where the walker stops: a goal of this shape is itself -/
section
variable {M : Model} {A : Around} {E : Value → Shared → Prop} {s : Shared}
theorem st_call {f p k Q} (x : wpAny M A (call f p k) Q E s) : wpAny M A (call f p k) Q E s := x
theorem st_getAttrO {v n Q} (x : wpAny M A (getAttr? v n) Q E s) : wpAny M A (getAttr? v n) Q E s := x
theorem st_getAttr {v n b Q} (x : wpAny M A (getAttr v n b) Q E s) : wpAny M A (getAttr v n b) Q E s := x
theorem st_classCode {a1 a2 a3 a4 a5 a6 Q} (x : wpAny M A (classCode a1 a2 a3 a4 a5 a6) Q E s) : wpAny M A (classCode a1 a2 a3 a4 a5 a6) Q E s := x
theorem st_run {a1 a2 Q} (x : wpAny M A (run a1 a2) Q E s) : wpAny M A (run a1 a2) Q E s := x
theorem st_storeName {a1 a2 a3 Q} (x : wpAny M A (storeName a1 a2 a3) Q E s) : wpAny M A (storeName a1 a2 a3) Q E s := x
theorem st_nsGet {a1 a2 Q} (x : wpAny M A (nsGet a1 a2) Q E s) : wpAny M A (nsGet a1 a2) Q E s := x
theorem st_enterFrame {a1 Q} (x : wpAny M A (enterFrame a1) Q E s) : wpAny M A (enterFrame a1) Q E s := x
theorem st_evalArgs {a1 a2 a3 a4 Q} (x : wpAny M A (evalArgs a1 a2 a3 a4) Q E s) : wpAny M A (evalArgs a1 a2 a3 a4) Q E s := x
theorem st_buildClass {a1 a2 a3 a4 a5 a6 a7 a8 a9 b1 b2 Q} (x : wpAny M A (buildClass a1 a2 a3 a4 a5 a6 a7 a8 a9 b1 b2) Q E s) : wpAny M A (buildClass a1 a2 a3 a4 a5 a6 a7 a8 a9 b1 b2) Q E s := x
theorem st_makeFunction {a1 a2 a3 a4 a5 a6 a7 a8 a9 b1 b2 Q} (x : wpAny M A (makeFunction a1 a2 a3 a4 a5 a6 a7 a8 a9 b1 b2) Q E s) : wpAny M A (makeFunction a1 a2 a3 a4 a5 a6 a7 a8 a9 b1 b2) Q E s := x
theorem st_builtinsFor {a1 a2 Q} (x : wpAny M A (builtinsFor a1 a2) Q E s) : wpAny M A (builtinsFor a1 a2) Q E s := x
theorem st_closureFor {a1 a2 Q} (x : wpAny M A (closureFor a1 a2) Q E s) : wpAny M A (closureFor a1 a2) Q E s := x
theorem st_slotsRead {a1 a2 a3 Q} (x : wpAny M A (Builtin.Slots.read a1 a2 a3) Q E s) : wpAny M A (Builtin.Slots.read a1 a2 a3) Q E s := x
theorem st_slotsInstall {a1 a2 a3 a4 Q} (x : wpAny M A (Builtin.Slots.install a1 a2 a3 a4) Q E s) : wpAny M A (Builtin.Slots.install a1 a2 a3 a4) Q E s := x
theorem st_collect {a1 Q} (x : wpAny M A (collect a1) Q E s) : wpAny M A (collect a1) Q E s := x
theorem st_nsDel {a1 a2 Q} (x : wpAny M A (nsDel a1 a2) Q E s) : wpAny M A (nsDel a1 a2) Q E s := x
theorem st_nsSet {a1 a2 a3 Q} (x : wpAny M A (nsSet a1 a2 a3) Q E s) : wpAny M A (nsSet a1 a2 a3) Q E s := x
theorem st_typeLookup {a1 a2 Q} (x : wpAny M A (typeLookup a1 a2) Q E s) : wpAny M A (typeLookup a1 a2) Q E s := x
theorem st_nsSetByValue {a1 a2 a3 Q} (x : wpAny M A (nsSetByValue a1 a2 a3) Q E s) : wpAny M A (nsSetByValue a1 a2 a3) Q E s := x
theorem st_updateCls {a1 a2 Q} (x : wpAny M A (updateCls a1 a2) Q E s) : wpAny M A (updateCls a1 a2) Q E s := x
theorem st_dictEntries {a1 a2 Q} (x : wpAny M A (dictEntries a1 a2) Q E s) : wpAny M A (dictEntries a1 a2) Q E s := x
theorem st_givesWeak {a1 Q} (x : wpAny M A (Builtin.Slots.givesWeak a1) Q E s) : wpAny M A (Builtin.Slots.givesWeak a1) Q E s := x
theorem st_setSlotAt {a1 a2 a3 Q} (x : wpAny M A (setSlotAt a1 a2 a3) Q E s) : wpAny M A (setSlotAt a1 a2 a3) Q E s := x
theorem st_specialOf {a1 a2 Q} (x : wpAny M A (specialOf a1 a2) Q E s) : wpAny M A (specialOf a1 a2) Q E s := x
theorem st_classOwn {a1 a2 Q} (x : wpAny M A (classOwn a1 a2) Q E s) : wpAny M A (classOwn a1 a2) Q E s := x
theorem st_typeOf {a1 Q} (x : wpAny M A (typeOf a1) Q E s) : wpAny M A (typeOf a1) Q E s := x
theorem st_forU {ρ α : Type} {_ : ForIn Sem ρ α} {r : ρ} {f : α → PUnit → Sem (ForInStep PUnit)} {Q : PUnit → Shared → Prop} (x : wpAny M A (forIn r PUnit.unit f) Q E s) : wpAny M A (forIn r PUnit.unit f) Q E s := x
theorem st_forIn {ρ α β : Type} {_ : ForIn Sem ρ α} {r : ρ} {i : β} {f : α → β → Sem (ForInStep β)} {Q : β → Shared → Prop} (x : wpAny M A (forIn r i f) Q E s) : wpAny M A (forIn r i f) Q E s := x
end
end

-- D3
section
open PySem PySem.W PyProof.Rows PySem.Calls
open PySem.W.X (Mem tableObj hasCls away)
noncomputable def kStmt : Stmt := (fbody (fstmt 19)).getD 0 (.Pass ⟨0,0,0,0⟩)
noncomputable def cBody : Stmt → List Stmt
  | .ClassDef _ _ _ b .. => b
  | _ => []
noncomputable def cScope : Stmt → Scope
  | .ClassDef _ _ _ _ _ _ sc .. => sc
  | _ => { kind := .function, names := [], isGenerator := false, isCoroutine := false, more := [] }
noncomputable def kBody : List Stmt := cBody kStmt
noncomputable def kScope : Scope := cScope kStmt
/-- the class body's frame -/
noncomputable def kEnv (ns c fr cl : Addr) (qual : Str) : Env := { scope := kScope, locals := ns, globals := 3, cells := [("mycmp", cl)], qual := qual ++ ".", code := .ref c, frame := some fr, builtins := 0 }
section
variable {prog : Program} {w : World} {A : Around} {E : Value → Shared → Prop} {X : List Addr} {h₀ h : Heap} {g : Array GenState} {d : Drawn} {tk : Nat} {os : OsState} {news rest : List (Addr × Obj)} {ns c fr cl : Addr} {qual : Str} {o : Obj} {l : List (Str × Value)}
theorem c_store {name : Str} {v : Value} {env : Env} {Q : Unit → Shared → Prop} (D : Led X h₀ h news) (hk : env.scope.kind = .class) (hx : env.kindOf name = some .local) (hl : env.locals = ns) (hi : Rm (ns, o) news rest) (N : NsL o l)
    (x : ∀ o' h', NsL o' (lput name v l) → Led X h₀ h' ((ns, o') :: rest) → Q () ⟨h', g, d, tk + 1, os⟩) : wpAny (model prog w) A (storeName env name v) Q E ⟨h, g, d, tk, os⟩ := by
  unfold storeName
  rw [hx]
  show wpAny _ _ (if (env.scope.kind == .class || (env.scope.kind == .module && env.locals != env.globals)) = true then localSet env name v else nsSet env.locals name v) _ _ _
  rw [hk, if_pos (by rfl)]
  unfold localSet
  rw [hl]
  refine wpAny_bind (wpAny_load (D.at hi.mem) ?_)
  have : (o.cls == .type "dict") = true := by obtain ⟨es, n, rfl, _⟩ := N; rfl
  rw [this, if_pos rfl]
  exact c_nsSet D hi N x
/-- the builtins' module, where a def looks for it -/
noncomputable def BA (mg : Str → Option Value) (h : Heap) : Prop :=
  ∃ bm o, mg "__builtins__" = some (.ref bm) ∧ bm ≠ builtinsNs ∧ bm ≠ mainGlobals ∧ bm < 166 ∧ bm ≠ 111 ∧ bm ≠ 161 ∧ h.get? bm = some o ∧ o.cls = .type "module" ∧ o.dict = some builtinsNs ∧ o.data = .plain
theorem BA.at {mg : Str → Option Value} {h h' : Heap} {U : List Addr} {P : Addr} (x : BA mg h) (k : KX U h h') (hU : Hi U) (hP : 166 ≤ P ∨ P = 111 ∨ P = 161) : h'.BuiltinsAt mg P := by
  obtain ⟨bm, o, a1, a2, a3, a4, a5, a6, a7, a8⟩ := x
  refine ⟨bm, o, a1, a2, a3, ?_, k.keep _ _ (hU.not a4 a5 a6) a7, a8⟩
  rintro rfl
  rcases hP with q | q | q
  · exact absurd a4 (Nat.not_lt.mpr q)
  · exact a5 q
  · exact a6 q
theorem c_def {mg : Str → Option Value} {name : Str} {po ar : List Arg} {body : List Stmt} {scope : Scope} {pos : Pos} {P : Addr} {ps : Array Value} {oc : Obj} {clos : List (Str × Addr)} {Q : Flow → Shared → Prop}
    (D : Led X h₀ h news) (hX : Hi X) (hg : h₀.Ns 3 mg) (hb : BA mg h₀) (hx : kScope.names.lookup name = some .local) (hcl : closureFor scope (kEnv ns c fr cl qual) = pure clos) (han : annotationsOf (ar ++ po ++ (none : Option Arg).toList ++ [] ++ (none : Option Arg).toList) (kEnv ns c fr cl qual) = [])
    (hc : (c, oc) ∈ news) (O : CodeO oc P) (hcP : c ≠ P) (hgP : 166 ≤ P) (hP : Rm (P, tabObj ps) news rest) (ht : TriplesOk ps.toList) (hnf : codeAmong pos ps.toList = none) {r2 : List (Addr × Obj)} (hi : Rm (ns, o) rest r2) (N : NsL o l)
    (x : ∀ f cf oc ctv doc o' h' tk', Led X h₀ h' ((ns, o') :: (f, fnMade name (qual ++ "." ++ name) ⟨po, ar, none, [], [], none, []⟩ body scope clos doc ((mg "__name__").getD .none) cf ctv) :: (cf, oc) :: (P, tabObj (ps ++ #[rawInt pos.line, rawInt pos.col, .ref cf])) :: r2) → CodeQ oc (qual ++ "." ++ name) → NsL o' (lput name (.ref f) l) → Q .next ⟨h', g, d, tk', os⟩) :
    wpAny (model prog w) A (exec (.FunctionDef name ⟨po, ar, none, [], [], none, []⟩ body [] none [] scope none name pos) (kEnv ns c fr cl qual)) Q E ⟨h, g, d, tk, os⟩ := by
  have h3X : 3 ∉ X := hX.not (by decide) (by decide) (by decide)
  have hk : (kEnv ns c fr cl qual).kindOf name = some .local := hx
  have hq : qualnameIn (kEnv ns c fr cl qual) name name = qual ++ "." ++ name := by
    unfold qualnameIn; rw [hk]; rfl
  rw [arm_exec_FunctionDef]
  unfold defStmt
  rw [hq]
  repeat walk_at "cka"
  try dsimp only
  rw [han]
  repeat walk_at "cka"
  refine c_makeFunction D rfl hcl rfl (D.ns h3X hg) (hb.at D.kx hX (.inl hgP)) (O.hd (D.at hc) hcP) hP (Nat.ne_of_lt (Nat.lt_of_lt_of_le (by decide) hgP)) ht hnf fun f cf ctv doc oc' h' tk' D' qq => ?_
  repeat walk_at "cka"
  refine c_store D' rfl hk rfl (.miss _ (.miss _ (.miss _ hi))) N fun o' h2 N' D2 => ?_
  repeat walk_at "cka"
  exact x f cf oc' ctv doc o' h2 _ D2 qq N'
end
end

-- D4
section
open PySem PySem.W PyProof.Rows PySem.Calls
open PySem.W.X (Mem tableObj hasCls away)
noncomputable def kDef (i : Nat) : Stmt := kBody.getD i (.Pass ⟨0,0,0,0⟩)
noncomputable def kFn (qual : Str) (pm : Value) (i : Nat) (clos : List (Str × Addr)) (doc : Value) (cf : Addr) (ctv : Value) : Obj :=
  fnMade (fname (kDef i)) (qual ++ "." ++ fname (kDef i)) (fargs (kDef i)) (fbody (kDef i)) (fscope (kDef i)) clos doc pm cf ctv
/-- the class's names behind its body -/
noncomputable def kL (l : List (Str × Value)) (sl : Addr) (t : Tok) (f2 f3 f4 f5 f6 f7 : Addr) : List (Str × Value) :=
  lput "__hash__" .none (lput "__ge__" (.ref f7) (lput "__le__" (.ref f6) (lput "__eq__" (.ref f5) (lput "__gt__" (.ref f4) (lput "__lt__" (.ref f3) (lput "__init__" (.ref f2) (lput "__slots__" (.ref sl) (lput "__module__" (.str "cpy313.functools" t) l))))))))
section
variable {prog : Program} {w : World} {A : Around} {E : Value → Shared → Prop} {X : List Addr} {h₀ h : Heap} {g : Array GenState} {d : Drawn} {tk : Nat} {os : OsState} {news rest : List (Addr × Obj)} {ns c fr cl : Addr} {qual : Str} {o : Obj} {l : List (Str × Value)}
theorem c_cons {st : Stmt} {r : List Stmt} {env : Env} {Q : Flow → Shared → Prop} {s : Shared} (x : wpAny (model prog w) A (exec st env) (fun f s' => match f with | .next => wpAny (model prog w) A (execs r env) Q E s' | f => Q f s') E s) : wpAny (model prog w) A (execs (st :: r) env) Q E s := by
  rw [execs_cons]
  refine wpAny_bind (wpAny_mono x (fun f s' y => ?_) fun _ _ e => e)
  cases f <;> first | exact y | exact wpAny_pure y
theorem c_nil {env : Env} {Q : Flow → Shared → Prop} {s : Shared} (x : Q .next s) : wpAny (model prog w) A (execs [] env) Q E s := wpAny_pure x
/-- one of the class body's defs -/
theorem c_kdef (i : Nat) {n : Nat} {mg : Str → Option Value} {clos : List (Str × Addr)} {P : Addr} {ps : Array Value} {oc : Obj} {r : List Stmt} {Q : Flow → Shared → Prop} {name : Str} {args : Arguments} {body : List Stmt} {scope : Scope} {pos : Pos}
    (hdef : kDef i = .FunctionDef name args body [] none [] scope none name pos) (hargs : args = ⟨args.posonlyargs, args.args, none, [], [], none, []⟩)
    (D : Led X h₀ h news) (hX : Hi X) (hg : h₀.Ns 3 mg) (hb : BA mg h₀) (hx : kScope.names.lookup name = some .local) (hcl : closureFor scope (kEnv ns c fr cl qual) = pure clos)
    (han : annotationsOf (args.args ++ args.posonlyargs ++ (none : Option Arg).toList ++ [] ++ (none : Option Arg).toList) (kEnv ns c fr cl qual) = [])
    (hc : (c, oc) ∈ news) (O : CodeO oc P) (hcP : c ≠ P) (hgP : 166 ≤ P) (hP : Rm (P, tabObj ps) news rest) (T : TabLt ps n) (hnp : n ≤ pos.line) {r2 : List (Addr × Obj)} (hi : Rm (ns, o) rest r2) (N : NsL o l)
    (x : ∀ f cf oc ctv doc o' h' tk', Led X h₀ h' ((ns, o') :: (f, kFn qual ((mg "__name__").getD .none) i clos doc cf ctv) :: (cf, oc) :: (P, tabObj (ps ++ #[rawInt pos.line, rawInt pos.col, .ref cf])) :: r2) → CodeQ oc (qual ++ "." ++ fname (kDef i)) → NsL o' (lput name (.ref f) l) → wpAny (model prog w) A (execs r (kEnv ns c fr cl qual)) Q E ⟨h', g, d, tk', os⟩) :
    wpAny (model prog w) A (execs (kDef i :: r) (kEnv ns c fr cl qual)) Q E ⟨h, g, d, tk, os⟩ := by
  refine c_cons ?_
  unfold kFn at x
  rw [hdef] at x ⊢
  rw [hargs]
  refine c_def D hX hg hb hx hcl han hc O hcP hgP hP T.1 (T.2 _ hnp) hi N fun f cf oc ctv doc o' h' tk' D' qq N' => ?_
  exact x f cf oc ctv doc o' h' tk' (by have := D'; rw [← hargs] at this; exact this) qq N'
theorem kbody_ {mg : Str → Option Value} {P : Addr} {oc : Obj} {Q : Flow → Shared → Prop}
    (D : Led X h₀ h ((ns, o) :: (c, oc) :: (P, tabObj #[]) :: rest)) (hX : Hi X) (hg : h₀.Ns 3 mg) (hb : BA mg h₀) (O : CodeO oc P) (hcP : c ≠ P) (hgP : 166 ≤ P) (N : NsL o l)
    (x : ∀ (o' : Obj) (sl : Addr) (t t' : Tok) (f2 cf2 : Addr) (co2 : Obj) (ctv2 doc2 : Value) (f3 cf3 : Addr) (co3 : Obj) (ctv3 doc3 : Value) (f4 cf4 : Addr) (co4 : Obj) (ctv4 doc4 : Value) (f5 cf5 : Addr) (co5 : Obj) (ctv5 doc5 : Value) (f6 cf6 : Addr) (co6 : Obj) (ctv6 doc6 : Value) (f7 cf7 : Addr) (co7 : Obj) (ctv7 doc7 : Value) (h' : Heap) (tk' : Nat), Led X h₀ h' ((ns, o') :: (f7, kFn qual ((mg "__name__").getD .none) 7 [("mycmp", cl)] doc7 cf7 ctv7) :: (cf7, co7) :: (f6, kFn qual ((mg "__name__").getD .none) 6 [("mycmp", cl)] doc6 cf6 ctv6) :: (cf6, co6) :: (f5, kFn qual ((mg "__name__").getD .none) 5 [("mycmp", cl)] doc5 cf5 ctv5) :: (cf5, co5) :: (f4, kFn qual ((mg "__name__").getD .none) 4 [("mycmp", cl)] doc4 cf4 ctv4) :: (cf4, co4) :: (f3, kFn qual ((mg "__name__").getD .none) 3 [("mycmp", cl)] doc3 cf3 ctv3) :: (cf3, co3) :: (f2, kFn qual ((mg "__name__").getD .none) 2 [] doc2 cf2 ctv2) :: (cf2, co2) :: (sl, { cls := .type "list", data := .seq #[.str "obj" t'] }) :: (c, oc) :: rest) →
      NsL o' (kL l sl t f2 f3 f4 f5 f6 f7) → CodeQ co2 (qual ++ "." ++ "__init__") → CodeQ co3 (qual ++ "." ++ "__lt__") → CodeQ co4 (qual ++ "." ++ "__gt__") → CodeQ co5 (qual ++ "." ++ "__eq__") → CodeQ co6 (qual ++ "." ++ "__le__") → CodeQ co7 (qual ++ "." ++ "__ge__") → Q .next ⟨h', g, d, tk', os⟩) :
    wpAny (model prog w) A (execs kBody (kEnv ns c fr cl qual)) Q E ⟨h, g, d, tk, os⟩ := by
  show wpAny (model prog w) A (execs [kDef 0, kDef 1, kDef 2, kDef 3, kDef 4, kDef 5, kDef 6, kDef 7, kDef 8] (kEnv ns c fr cl qual)) Q E ⟨h, g, d, tk, os⟩
  refine c_cons (wpAny_Assign_Name ?_)
  refine Constant_str ?_
  refine c_store (ns := ns) D rfl (by rfl) rfl (by walk_at "rm") N fun o1 h1 N1 D1 => ?_
  dsimp only
  refine c_cons (wpAny_Assign_Name ?_)
  rw [arm_eval_List]
  refine wpAny_bind (wpAny_standAt (wpAny_bind ?_))
  refine spliced_cons (Constant_str (k := 0) (pos := ⟨161, 21, 161, 26⟩) ?_)
  refine spliced_nil (wpAny_newObj_type ?_ (by show 1 ≤ sizeLine; decide))
  have D2 := D1.alloc (o := { cls := .type "list", data := .seq #[.str "obj" (tk + 1 + 1)] }) rfl
  refine c_store (ns := ns) D2 rfl (by rfl) rfl (by walk_at "rm") N1 fun o3 h3 N3 D3 => ?_
  dsimp only
  refine c_kdef (ns := ns) 2 rfl rfl D3 hX hg hb (by rfl) (by rfl) (by rfl) (by walk_at "mem") O hcP hgP (by walk_at "rm") (TabLt.nil 0) (by decide) (by walk_at "rm") N3 fun f2 cf2 co2 ctv2 doc2 on2 hh2 tk2 DD2 qq2 NN2 => ?_
  have TT2 := (TabLt.nil 0).add (c := .ref cf2) (pos := ⟨163, 8, 164, 26⟩) (m := 164) (by decide) (by decide)
  refine c_kdef (ns := ns) 3 rfl rfl DD2 hX hg hb (by rfl) (by rfl) (by rfl) (by walk_at "mem") O hcP hgP (by walk_at "rm") TT2 (by decide) (by walk_at "rm") NN2 fun f3 cf3 co3 ctv3 doc3 on3 hh3 tk3 DD3 qq3 NN3 => ?_
  have TT3 := TT2.add (c := .ref cf3) (pos := ⟨166, 8, 167, 49⟩) (m := 167) (by decide) (by decide)
  refine c_kdef (ns := ns) 4 rfl rfl DD3 hX hg hb (by rfl) (by rfl) (by rfl) (by walk_at "mem") O hcP hgP (by walk_at "rm") TT3 (by decide) (by walk_at "rm") NN3 fun f4 cf4 co4 ctv4 doc4 on4 hh4 tk4 DD4 qq4 NN4 => ?_
  have TT4 := TT3.add (c := .ref cf4) (pos := ⟨169, 8, 170, 49⟩) (m := 170) (by decide) (by decide)
  refine c_kdef (ns := ns) 5 rfl rfl DD4 hX hg hb (by rfl) (by rfl) (by rfl) (by walk_at "mem") O hcP hgP (by walk_at "rm") TT4 (by decide) (by walk_at "rm") NN4 fun f5 cf5 co5 ctv5 doc5 on5 hh5 tk5 DD5 qq5 NN5 => ?_
  have TT5 := TT4.add (c := .ref cf5) (pos := ⟨172, 8, 173, 50⟩) (m := 173) (by decide) (by decide)
  refine c_kdef (ns := ns) 6 rfl rfl DD5 hX hg hb (by rfl) (by rfl) (by rfl) (by walk_at "mem") O hcP hgP (by walk_at "rm") TT5 (by decide) (by walk_at "rm") NN5 fun f6 cf6 co6 ctv6 doc6 on6 hh6 tk6 DD6 qq6 NN6 => ?_
  have TT6 := TT5.add (c := .ref cf6) (pos := ⟨175, 8, 176, 50⟩) (m := 176) (by decide) (by decide)
  refine c_kdef (ns := ns) 7 rfl rfl DD6 hX hg hb (by rfl) (by rfl) (by rfl) (by walk_at "mem") O hcP hgP (by walk_at "rm") TT6 (by decide) (by walk_at "rm") NN6 fun f7 cf7 co7 ctv7 doc7 on7 hh7 tk7 DD7 qq7 NN7 => ?_
  have TT7 := TT6.add (c := .ref cf7) (pos := ⟨178, 8, 179, 50⟩) (m := 179) (by decide) (by decide)
  refine c_cons (wpAny_Assign_Name ?_)
  refine (wpAny_pure ?_ : wpAny _ _ (pure Value.none) _ _ _)
  refine c_store (ns := ns) DD7 rfl (by rfl) rfl (by walk_at "rm") NN7 fun o9 h9 N9 D9 => ?_
  dsimp only
  refine c_nil ?_
  refine x _ _ _ _ f2 cf2 co2 ctv2 doc2 f3 cf3 co3 ctv3 doc3 f4 cf4 co4 ctv4 doc4 f5 cf5 co5 ctv5 doc5 f6 cf6 co6 ctv6 doc6 f7 cf7 co7 ctv7 doc7 _ _ (D9.drop (by walk_at "rm")) N9 qq2 qq3 qq4 qq5 qq6 qq7
end
end

-- D5
section
open PySem PySem.W PyProof.Rows PySem.Calls
open PySem.W.X (Mem tableObj hasCls away)
theorem Led.new1 {P a : Addr} {o p : Obj} {h₀ h : Heap} {news rest : List (Addr × Obj)} (D : Led [P] h₀ h news) (ha : Rm (a, o) news rest) (hp : (P, p) ∈ rest) : h₀.objs.size ≤ a :=
  (D.nw _ ha.mem).2.elim id fun z => absurd (List.mem_singleton.mp z) (D.ne ha hp)
theorem codeHd_kx {h h' : Heap} {c P : Addr} {U : List Addr} (x : CodeHd h c P) (k : KX U h h') (hc : c ∉ U) : CodeHd h' c P :=
  x.imp fun o => Exists.imp fun vs => Exists.imp fun file => Exists.imp fun tf => Exists.imp fun flags => Exists.imp fun tg => Exists.imp fun inF => Exists.imp fun text => Exists.imp fun tt y => ⟨k.keep _ _ hc y.1, y.2⟩
theorem nsl_nil : NsL (dictOf [] 0) [] := ⟨[], 0, rfl, .nil⟩
section
variable {prog : Program} {w : World} {A : Around} {mg mb : Str → Option Value}
theorem c_store2 {E : Value → Shared → Prop} {X : List Addr} {h₀ h : Heap} {g : Array GenState} {d : Drawn} {tk : Nat} {os : OsState} {news rest : List (Addr × Obj)} {ns : Addr} {o : Obj} {l : List (Str × Value)} {name : Str} {v : Value} {env : Env} {Q : Unit → Shared → Prop} (D : Led X h₀ h news) (hk : env.scope.kind = .class) (hx : env.kindOf name = none) (hbk : (env.blockKind == .function) = false) (hcn : compilersOwnNames.contains name = true) (hl : env.locals = ns) (hi : Rm (ns, o) news rest) (N : NsL o l)
    (x : ∀ o' h', NsL o' (lput name v l) → Led X h₀ h' ((ns, o') :: rest) → Q () ⟨h', g, d, tk + 1, os⟩) : wpAny (model prog w) A (storeName env name v) Q E ⟨h, g, d, tk, os⟩ := by
  unfold storeName
  rw [hx, hbk, hcn, hk]
  show wpAny _ _ (localSet env name v) _ _ _
  unfold localSet
  rw [hl]
  refine wpAny_bind (wpAny_load (D.at hi.mem) ?_)
  have : (o.cls == .type "dict") = true := by obtain ⟨es, n, rfl, _⟩ := N; rfl
  rw [this, if_pos rfl]
  exact c_nsSet D hi N x
theorem c_builtinsFor {s : Shared} {P r : Addr} {Q : Addr → Shared → Prop} {E : Value → Shared → Prop} (hg : s.heap.Ns 3 mg) (hb : s.heap.BuiltinsAt mg P) (q : Q 0 s) : wpAny (model prog w) A (builtinsFor 3 r) Q E s := by
  obtain ⟨bm, o, hbm, hne0, _, _, hbo, hcls, hdict, hdata⟩ := hb
  exact wpAny_builtinsFor hg hbm hne0 hbo hcls hdict hdata q
end
end

-- D6
section
open PySem PySem.W PyProof.Rows PySem.Calls
open PySem.W.X (Mem tableObj hasCls away)
theorem e_type_new : entryFor table "type.__new__" = some PySem.Builtin.«type.__new__» := entryFor_of_tree (by kernel_rfl)
theorem k_type_new (n : Value) (a b : Value) : checkBuiltinCall "type.__new__" ⟨[.type "type", n, a, b], []⟩ = pure () := by kernel_rfl
noncomputable def kNs (t8 tq tl : Tok) (qual : Str) (line : Nat) (sl sa f2 f3 f4 f5 f6 f7 : Addr) : List (Str × Value) :=
  [("__module__", .str "cpy313.functools" t8), ("__qualname__", .str qual tq), ("__firstlineno__", .int line tl), ("__slots__", .ref sl), ("__init__", .ref f2), ("__lt__", .ref f3), ("__gt__", .ref f4), ("__eq__", .ref f5), ("__le__", .ref f6), ("__ge__", .ref f7), ("__hash__", .none), ("__static_attributes__", .ref sa)]
noncomputable def kEs (t8 tq tl : Tok) (qual : Str) (line : Nat) (sl sa f2 f3 f4 f5 f6 f7 : Addr) (I : Nat → Int) (U : Nat → Tok) : List DictEntry :=
  [⟨I 0, .str "__module__" (U 0), .str "cpy313.functools" t8⟩, ⟨I 1, .str "__qualname__" (U 1), .str qual tq⟩, ⟨I 2, .str "__firstlineno__" (U 2), .int line tl⟩, ⟨I 3, .str "__slots__" (U 3), .ref sl⟩, ⟨I 4, .str "__init__" (U 4), .ref f2⟩, ⟨I 5, .str "__lt__" (U 5), .ref f3⟩, ⟨I 6, .str "__gt__" (U 6), .ref f4⟩, ⟨I 7, .str "__eq__" (U 7), .ref f5⟩, ⟨I 8, .str "__le__" (U 8), .ref f6⟩, ⟨I 9, .str "__ge__" (U 9), .ref f7⟩, ⟨I 10, .str "__hash__" (U 10), .none⟩, ⟨I 11, .str "__static_attributes__" (U 11), .ref sa⟩]
noncomputable def esOf (I : Nat → Int) (U : Nat → Tok) : Nat → List (Str × Value) → List DictEntry
  | _, [] => []
  | k, p :: r => ⟨I k, .str p.1 (U k), p.2⟩ :: esOf I U (k + 1) r
theorem esOf_congr {I I' : Nat → Int} {U U' : Nat → Tok} : ∀ (l : List (Str × Value)) (k : Nat), (∀ n, k ≤ n → I n = I' n ∧ U n = U' n) → esOf I U k l = esOf I' U' k l
  | [], _, _ => rfl
  | p :: r, k, h => by
    show _ :: _ = _ :: _
    rw [(h k (Nat.le_refl _)).1, (h k (Nat.le_refl _)).2, esOf_congr r (k + 1) fun n hn => h n (Nat.le_of_succ_le hn)]
theorem paired_es {es : List DictEntry} {l : List (Str × Value)} (pr : Paired (fun (e : DictEntry) (p : Str × Value) => (∃ t, e.key = .str p.1 t) ∧ e.val = p.2) es l) : ∀ k, ∃ I U, es = esOf I U k l := by
  induction pr with
  | nil => exact fun _ => ⟨fun _ => 0, fun _ => 0, rfl⟩
  | @cons e p _ r h _ ih =>
    intro k
    obtain ⟨I, U, e2⟩ := ih (k + 1)
    obtain ⟨⟨t, e1⟩, e3⟩ := h
    obtain ⟨i, _, _⟩ := e
    refine ⟨fun n => if n = k then i else I n, fun n => if n = k then t else U n, ?_⟩
    show _ = _ :: _
    dsimp only at e1 e3 ⊢
    rw [if_pos rfl, if_pos rfl, e2, e1, e3, esOf_congr r (k + 1) fun n hn => ⟨if_neg (Nat.ne_of_gt hn), if_neg (Nat.ne_of_gt hn)⟩]
theorem kNs_es {t8 tq tl : Tok} {qual : Str} {line : Nat} {sl sa f2 f3 f4 f5 f6 f7 : Addr} {es : List DictEntry} (pr : Paired (fun (e : DictEntry) (p : Str × Value) => (∃ t, e.key = .str p.1 t) ∧ e.val = p.2) es (kNs t8 tq tl qual line sl sa f2 f3 f4 f5 f6 f7)) :
    ∃ I U, es = kEs t8 tq tl qual line sl sa f2 f3 f4 f5 f6 f7 I U := by
  obtain ⟨I, U, e⟩ := paired_es pr 0
  exact ⟨I, U, e⟩
section
variable {prog : Program} {w : World} {A : Around} {E : Value → Shared → Prop} {hh h : Heap} {g : Array GenState} {d : Drawn} {tk : Nat} {os : OsState} {news rest : List (Addr × Obj)}
theorem c_slotsRead {X : List Addr} {qual : Str} {line : Nat} {t8 tq tl tz : Tok} {sl sa f2 f3 f4 f5 f6 f7 : Addr} {I : Nat → Int} {U : Nat → Tok} {Q : Builtin.Slots.Plan → Shared → Prop} (hA : A.handled = none) (D : Led X hh h news) (hs : (sl, { cls := .type "list", data := .seq #[.str "obj" tz] }) ∈ news)
    (x : ∀ h' tk', Led X hh h' news → Q { names := ["obj"], dict := false, weak := false, inherited := [] } ⟨h', g, d, tk', os⟩) :
    wpAny (model prog w) A (Builtin.Slots.read "K" [.type "object"] (kEs t8 tq tl qual line sl sa f2 f3 f4 f5 f6 f7 I U).toArray) Q E ⟨h, g, d, tk, os⟩ := by
  unfold Builtin.Slots.read
  repeat ((fail_if_success with_reducible (first | refine st_nsGet ?_ | refine st_nsDel ?_ | refine st_nsSet ?_)); walk_at "ck")
  refine (collect_list (l := sl) (vs := [.str "obj" tz]) ⟨_, D.at hs, rfl, 0, rfl⟩ ?_ : wpAny (model prog w) A (collect (.ref sl)) _ E ⟨h, g, d, _, os⟩)
  have D1 := ((D.alloc (o := seqObj "list" #[] 0) rfl).update (f := Obj.mapSeq (· ++ #[.str "obj" tz])) (.hit _) rfl).drop (.hit _)
  dsimp only
  generalize hh1 : Heap.update _ _ _ = h1 at D1 ⊢
  repeat ((fail_if_success with_reducible (first | refine st_nsGet ?_ | refine st_nsDel ?_ | refine st_nsSet ?_)); walk_at "ck")
  rw [show Builtin.Slots.isIdentifier (Str.ofString "obj") = some true from by decide +kernel]
  repeat ((fail_if_success with_reducible (first | refine st_nsGet ?_ | refine st_nsDel ?_ | refine st_nsSet ?_)); walk_at "ck")
  exact c_eqArg (R := Q) (by kernel_rfl!) (x _ _ D1)
end
end

-- D8
section
open PySem PySem.W PyProof.Rows PySem.Calls PySem.F
open PySem.W.X (Mem tableObj hasCls away)
theorem dw (C : Addr) : (List.dropWhile (fun x => x != Value.ref C) [Value.ref C, Value.type "object"]).drop 1 = [Value.type "object"] := by
  have h1 : (Value.ref C != Value.ref C) = false := by simp
  rw [List.dropWhile_cons, h1]; rfl
theorem own_is : classOwn (.type "object") "__init_subclass__" = pure (some (.builtin "object.__init_subclass__")) := by
  show pure (builtinOwn "object" "__init_subclass__") = _
  rw [builtinOwn_eq_fast]; kernel_rfl
theorem ty_is : (typeOf (.builtin "object.__init_subclass__") : Sem Value) = pure (.type "classmethod_descriptor") := by
  show builtinType _ = _
  rw [builtinType_eq_fast]; kernel_rfl
theorem tl_is : typeLookup (.type "classmethod_descriptor") "__get__" = pure (some (.builtin "classmethod_descriptor.__get__")) := by
  rw [typeLookup_type, builtinLookup_eq_fast]; kernel_rfl
noncomputable def isO (C : Addr) : Obj := { cls := .type "builtin_function_or_method", data := .fields #[.builtin "object.__init_subclass__", .ref C] }
noncomputable def supO (C : Addr) : Obj := { cls := .type "super", data := .fields #[.ref C, .ref C, .ref C] }
theorem c_eqTree {α : Type} {M : Model} {A : Around} {Q : α → Shared → Prop} {E : Value → Shared → Prop} {s : Shared} {t t' : Sem α} (e : t = t') (x : wpAny M A t' Q E s) : wpAny M A t Q E s := e ▸ x
section
variable {prog : Program} {w : World} {A : Around} {E : Value → Shared → Prop} {X : List Addr} {h₀ h : Heap} {g : Array GenState} {d : Drawn} {tk : Nat} {os : OsState} {news : List (Addr × Obj)}
theorem sup1 {C ns : Addr} {qual : Str} {hd : Bool} {sn : List Str} {sl : Array (Option Value)} {Q : Value → Shared → Prop} (hA : A.handled = none) (hu : A.units + 100 < cLine) (hD : Led X h₀ h news)
    (hC : h.get? C = some ⟨.type "type", none, .cls { name := "K", bases := [.type "object"], mro := [.ref C, .type "object"], ns := ns, qualname := qual, hasDict := hd, slotNames := sn }, sl⟩)
    (hx : ∀ a h' tk', Led X h₀ h' ((a, supO C) :: news) → Q (.ref a) ⟨h', g, d, tk', os⟩) : wpAny (model prog w) A (call (.type "super") [.ref C, .ref C] []) Q E ⟨h, g, d, tk, os⟩ := by
  refine wpAny_gr ?_
  x_run
theorem is1 {C ns : Addr} {qual : Str} {hd : Bool} {sn : List Str} {sl : Array (Option Value)} {Q : Value → Shared → Prop} (hA : A.handled = none) (hu : A.units + 100 < cLine) (hD : Led X h₀ h news)
    (hC : h.get? C = some ⟨.type "type", none, .cls { name := "K", bases := [.type "object"], mro := [.ref C, .type "object"], ns := ns, qualname := qual, hasDict := hd, slotNames := sn }, sl⟩)
    (hx : ∀ a h' tk', Led X h₀ h' ((a, isO C) :: news) → Q (.ref a) ⟨h', g, d, tk', os⟩) : wpAny (model prog w) A (call (.builtin "classmethod_descriptor.__get__") [.builtin "object.__init_subclass__", .none, .ref C] []) Q E ⟨h, g, d, tk, os⟩ := by
  refine wpAny_gr ?_
  x_run
theorem sup2 {s C ns : Addr} {qual : Str} {hd : Bool} {sn : List Str} {sl : Array (Option Value)} {Q : Value → Shared → Prop} (hA : A.handled = none) (hu : A.units + 200 < cLine) (hD : Led X h₀ h news) (hS : (s, supO C) ∈ news)
    (hC : (C, ⟨.type "type", none, .cls { name := "K", bases := [.type "object"], mro := [.ref C, .type "object"], ns := ns, qualname := qual, hasDict := hd, slotNames := sn }, sl⟩) ∈ news)
    (hx : ∀ a h' tk', Led X h₀ h' ((a, isO C) :: news) → Q (.ref a) ⟨h', g, d, tk', os⟩) {mc : Str → Option Value} (hX2 : 2 ∉ X) (hmc : h₀.Ns 2 mc) (hth : mc "thirdparty.any" = none)
    : wpAny (model prog w) A (getAttr (.ref s) "__init_subclass__") Q E ⟨h, g, d, tk, os⟩ := by
  have LT : Looks (model prog w) h (nsGet cStatics "thirdparty.any") none := looks_ns (hD.ns hX2 hmc) hth
  unfold getAttr
  repeat walk_at "ck"
  rw [show (toString "super" ++ toString "." ++ toString (Str.ofString "__getattribute__").toString) = "super.__getattribute__" from by decide +kernel]
  refine PySem.W.X.y_start _ _ _ _ _ _ _ _ _ _ _ _ (by intro h; cases h) ?_
  refine codeAny_call_builtin ks_slot_super_ga.plain ks_entry_super_ga (ks_slot_super_ga.check _ _ _ _ _ _ _ _ ⟨_, hD.at hS, rfl⟩ (ks_gaArgs_super _ _) ?_)
  unfold PySem.Builtin.«super.__getattribute__»
  repeat ((fail_if_success with_reducible (first | refine st_forIn ?_ | refine st_classOwn ?_ | refine st_typeOf ?_ | refine st_typeLookup ?_)); walk_at "ck")
  refine c_eqTree (congrArg (fun L => forIn L _ _) (dw C)) ?_
  rw [List.forIn_cons]
  repeat ((fail_if_success with_reducible (first | refine st_forIn ?_ | refine st_classOwn ?_ | refine st_typeOf ?_ | refine st_typeLookup ?_)); walk_at "ck")
  refine wpAny_of_eq own_is ?_
  repeat ((fail_if_success with_reducible (first | refine st_forIn ?_ | refine st_classOwn ?_ | refine st_typeOf ?_ | refine st_typeLookup ?_)); walk_at "ck")
  refine wpAny_of_eq ty_is ?_
  repeat ((fail_if_success with_reducible (first | refine st_forIn ?_ | refine st_classOwn ?_ | refine st_typeOf ?_ | refine st_typeLookup ?_)); walk_at "ck")
  refine wpAny_of_eq tl_is ?_
  repeat walk_at "ck"
  refine c_eqTree (t' := call (.builtin "classmethod_descriptor.__get__") [.builtin "object.__init_subclass__", .none, .ref C]) ?_ ?_
  · show call _ [_, (if (Value.ref C == Value.ref C) = true then Value.none else Value.ref C), Value.ref C] = _
    rw [if_pos (beq_self_eq_true _)]
  refine is1 (show A.handled = none from hA) (by show A.units + 1 + 100 < _; lia) hD (hD.at hC) fun a h' tk' D' => ?_
  repeat walk_at "ck"
  exact hx _ _ _ D'
/-- what type.__new__ asks of its base -/
theorem is2 {b C ns : Addr} {hd : Bool} {sn : List Str} {es : List DictEntry} {n : Nat} {tq : Tok} {s0 s1 s2 s4 s5 : Option Value} {Q : Value → Shared → Prop} (hA : A.handled = none) (hu : A.units + 200 < cLine) (hD : Led X h₀ h news) (hB : (b, isO C) ∈ news)
    (hC : (C, ⟨.type "type", none, .cls { name := "K", bases := [.type "object"], mro := [.ref C, .type "object"], ns := ns, qualname := ("cmp_to_key.<locals>.K" : Str), hasDict := hd, slotNames := sn }, #[s0, s1, s2, some (.str "cmp_to_key.<locals>.K" tq), s4, s5]⟩) ∈ news) (hn : (ns, dictOf es n) ∈ news)
    (hx : Q .none ⟨h, g, d, tk, os⟩) {mc : Str → Option Value} (hX2 : 2 ∉ X) (hmc : h₀.Ns 2 mc) (hth : mc "thirdparty.any" = none) :
    wpAny (model prog w) A (call (.ref b) [] []) Q E ⟨h, g, d, tk, os⟩ := by
  have hC' := hD.at hC
  have hB' := hD.at hB
  have hn' := hD.at hn
  unfold isO at hB'
  unfold dictOf at hn'
  refine wpAny_gr ?_
  x_run
end
end

-- D7
section
open PySem PySem.W PyProof.Rows PySem.Calls
open PySem.W.X (Mem tableObj hasCls away)
theorem filt (C : Addr) : List.filter (fun x => x != Value.ref C) (Value.ref C :: [Value.type "object"]) = [Value.type "object"] := by
  have h1 : (Value.ref C != Value.ref C) = false := by simp
  have h2 : (Value.type "object" != Value.ref C) = true := by rfl
  rw [List.filter_cons, h1, List.filter_cons, h2]; rfl
theorem objDel : ((Manifest.find? "object").elim false fun ty => ty.attrs.any fun x => x.fst == "__del__") = false := by decide +kernel
noncomputable def sput (o : Obj) (i : Nat) (v : Option Value) : Obj := { o with slots := (o.slots ++ Array.replicate (i + 1 - o.slots.size) none).setIfInBounds i v }
theorem c_setSlotAt {M : Model} {A : Around} {X : List Addr} {h₀ h : Heap} {g : Array GenState} {d : Drawn} {tk : Nat} {os : OsState} {news rest : List (Addr × Obj)} {E : Value → Shared → Prop} {a : Addr} {o : Obj} {i : Nat} {v : Option Value} {Q : Unit → Shared → Prop} (D : Led X h₀ h news) (hi : Rm (a, o) news rest) (hf : (sput o i v).isFreed = false) (hz : ¬ i ≥ sizeLine)
    (x : ∀ h', Led X h₀ h' ((a, sput o i v) :: rest) → Q () ⟨h', g, d, tk, os⟩) : wpAny M A (setSlotAt a i v) Q E ⟨h, g, d, tk, os⟩ := by
  unfold setSlotAt
  rw [if_neg hz]
  exact wpAny_updatePart (D.at hi.mem) (x _ (D.update (f := fun o => sput o i v) hi hf))
theorem c_updateCls {M : Model} {A : Around} {X : List Addr} {h₀ h : Heap} {g : Array GenState} {d : Drawn} {tk : Nat} {os : OsState} {news rest : List (Addr × Obj)} {E : Value → Shared → Prop} {a : Addr} {o : Obj} {cd : ClassData} {f : ClassData → ClassData} {Q : Unit → Shared → Prop} (D : Led X h₀ h news) (hi : Rm (a, o) news rest) (hd : o.data = .cls cd) (hf : (Obj.mapCls f o).isFreed = false) (hp : (Obj.mapCls f o).data.pastItsLine = none)
    (x : ∀ h', Led X h₀ h' ((a, Obj.mapCls f o) :: rest) → Q () ⟨h', g, d, tk, os⟩) : wpAny M A (updateCls a f) Q E ⟨h, g, d, tk, os⟩ := by
  unfold updateCls
  refine wpAny_bind (wpAny_load (D.at hi.mem) ?_)
  rw [hd]
  have D' := D.update (f := Obj.mapCls f) hi hf
  refine wpAny_bind (wpAny_update (D.at hi.mem) ?_)
  unfold lookBehind
  refine wpAny_bind (wpAny_loadPart (D'.at (.head _)) ?_)
  rw [hp]
  exact wpAny_pure (x _ D')
theorem c_tryCatch {α : Type} {M : Model} {A : Around} {Q : α → Shared → Prop} {E : Value → Shared → Prop} {s : Shared} {m : Sem α} {k : Value → Sem α} (h : wpAny M A m Q (fun e s' => wpAny M A (k e) Q E s') s) : wpAny M A (Sem.tryCatch m k) Q E s := wpAny_tryCatch h
theorem z_setSlotAt {M : Model} {A : Around} {X : List Addr} {h₀ h : Heap} {g : Array GenState} {d : Drawn} {tk : Nat} {os : OsState} {news rest : List (Addr × Obj)} {E : Value → Shared → Prop} {a : Addr} {o : Obj} {i : Nat} {v : Option Value} {Q : Unit → Shared → Prop} (x : ∀ h', Led X h₀ h' ((a, sput o i v) :: rest) → Q () ⟨h', g, d, tk, os⟩) (D : Led X h₀ h news := by assumption) (hi : Rm (a, o) news rest := by walk_at "rm"; first | done | fail) (hf : (sput o i v).isFreed = false := by with_unfolding_all exact rfl) (hz : ¬ i ≥ sizeLine := by decide) : wpAny M A (setSlotAt a i v) Q E ⟨h, g, d, tk, os⟩ := c_setSlotAt D hi hf hz x
theorem z_updateCls {M : Model} {A : Around} {X : List Addr} {h₀ h : Heap} {g : Array GenState} {d : Drawn} {tk : Nat} {os : OsState} {news rest : List (Addr × Obj)} {E : Value → Shared → Prop} {a : Addr} {o : Obj} {cd : ClassData} {f : ClassData → ClassData} {Q : Unit → Shared → Prop} (x : ∀ h', Led X h₀ h' ((a, Obj.mapCls f o) :: rest) → Q () ⟨h', g, d, tk, os⟩) (D : Led X h₀ h news := by assumption) (hi : Rm (a, o) news rest := by walk_at "rm"; first | done | fail) (hd : o.data = .cls cd := by with_unfolding_all exact rfl) (hf : (Obj.mapCls f o).isFreed = false := by with_unfolding_all exact rfl) (hp : (Obj.mapCls f o).data.pastItsLine = none := by with_unfolding_all exact rfl) :
    wpAny M A (updateCls a f) Q E ⟨h, g, d, tk, os⟩ := c_updateCls D hi hd hf hp x
set_option hygiene false in
local macro_rules | `(tactic| walk_at "ckd") => `(tactic| first
  | with_reducible (first | (refine z_setSlotAt ?_; intro _ _) | (refine z_updateCls ?_; intro _ _) | refine c_tryCatch ?_ | refine wpAny_tryCatch ?_ | refine wpAny_attempt ?_)
  | walk_at "ck2")
theorem Led.conv {X : List Addr} {h₀ h : Heap} {r : List (Addr × Obj)} {a : Addr} {o o' : Obj} (D : Led X h₀ h ((a, o) :: r)) (e : o = o') : Led X h₀ h ((a, o') :: r) := e ▸ D
noncomputable def kSl (bT : Addr) (t tq : Tok) (qual : Str) (mk : Option Value) (wk : Option Value) : Array (Option Value) := #[some (.ref bT), none, some (.str "K" t), some (.str qual tq)] ++ (match mk, wk with | some m, some b => #[some m, some b] | some m, none => #[some m] | _, _ => #[])
noncomputable def kCls1 (C ns bT : Addr) (qual : Str) (t tq : Tok) (mk wk : Option Value) (hd : Bool) (sn : List Str) : Obj := { cls := .type "type", data := .cls { name := "K", bases := [.type "object"], mro := [.ref C, .type "object"], ns := ns, qualname := qual, hasDict := hd, slotNames := sn }, slots := kSl bT t tq qual mk wk }
theorem made_obj : Bind.madeBy (.type "object") = pure (some "object.__new__") := by kernel_rfl
theorem own_new : classOwn (.type "object") "__new__" = pure (some (.builtin "object.__new__")) := by
  show pure (builtinOwn "object" "__new__") = _
  rw [builtinOwn_eq_fast]; kernel_rfl
theorem nsl_len {es : List DictEntry} {l : List (Str × Value)} (p : Paired (fun (e : DictEntry) (p : Str × Value) => (∃ t, e.key = .str p.1 t) ∧ e.val = p.2) es l) : es.length = l.length := by
  induction p with
  | nil => rfl
  | cons _ _ ih => rw [List.length_cons, List.length_cons, ih]
section
variable {prog : Program} {w : World} {A : Around} {X : List Addr} {h₀ h : Heap} {g : Array GenState} {d : Drawn} {tk : Nat} {os : OsState} {news rest : List (Addr × Obj)} {E : Value → Shared → Prop}
theorem c_nsSetV {a : Addr} {o : Obj} {l : List (Str × Value)} {name : Str} {v : Value} {Q : Unit → Shared → Prop} (D : Led X h₀ h news) (hi : Rm (a, o) news rest) (N : NsL o l) (hz : ¬ l.length > sizeLine)
    (x : ∀ o' h', NsL o' (lput name v l) → Led X h₀ h' ((a, o') :: rest) → Q () ⟨h', g, d, tk + 1, os⟩) : wpAny (model prog w) A (nsSetByValue a name v) Q E ⟨h, g, d, tk, os⟩ := by
  unfold nsSetByValue
  refine wpAny_bind (wpAny_loadPart (D.at hi.mem) ?_)
  have c : ∃ es n, o.data = .dict es n ∧ es.size = l.length := by
    obtain ⟨es, n, rfl, p⟩ := N
    exact ⟨_, n, rfl, by rw [List.size_toArray]; exact nsl_len p⟩
  obtain ⟨es, n, e1, e2⟩ := c
  rw [e1]
  have : (decide (es.size > sizeLine) && noSuchName name es) = false := by rw [e2, decide_eq_false hz, Bool.false_and]
  dsimp only
  rw [this, if_neg (by decide)]
  exact c_nsSet D hi N x
theorem c_ownC {a : Addr} {o dn : Obj} {cd : ClassData} {l : List (Str × Value)} {name : Str} {Q : Option Value → Shared → Prop} (D : Led X h₀ h news) (hC : (a, o) ∈ news) (hd : o.data = .cls cd) (hn : (cd.ns, dn) ∈ news) (N : NsL dn l) (x : Q (lget name l) ⟨h, g, d, tk, os⟩) :
    wpAny (model prog w) A (classOwn (.ref a) name) Q E ⟨h, g, d, tk, os⟩ := by
  refine wpAny_bind (wpAny_bind (wpAny_load (D.at hC) ?_))
  rw [hd]
  exact wpAny_pure (c_nsGet D hn N x)
theorem c_typeLookupC {a : Addr} {o dn : Obj} {cd : ClassData} {l : List (Str × Value)} {name : Str} {r : Option Value} {Q : Option Value → Shared → Prop} (D : Led X h₀ h news) (hC : (a, o) ∈ news) (hd : o.data = .cls cd) (hm : cd.mro = [.ref a, .type "object"]) (hn : (cd.ns, dn) ∈ news) (N : NsL dn l)
    (hr : classOwn (.type "object") name = pure r) (x : Q (match lget name l with | some v => some v | none => r) ⟨h, g, d, tk, os⟩) : wpAny (model prog w) A (typeLookup (.ref a) name) Q E ⟨h, g, d, tk, os⟩ := by
  rw [typeLookup_eq]
  refine wpAny_bind (wpAny_bind (wpAny_bind (wpAny_load (D.at hC) ?_)))
  rw [hd]
  refine wpAny_pure (wpAny_pure ?_)
  rw [hm, lookupAlong_cons]
  refine wpAny_bind (c_ownC D hC hd hn N ?_)
  cases e : lget name l with
  | some v => rw [e] at x; exact wpAny_pure x
  | none =>
    rw [e] at x
    show wpAny _ _ (lookupAlong [.type "object"] name) _ _ _
    rw [lookupAlong_cons, hr, pure_bind]
    cases r with
    | some v => exact wpAny_pure x
    | none => exact wpAny_pure x
end
noncomputable def kMd (C : Addr) (t : Tok) : Obj := { cls := .type "member_descriptor", data := .fields #[.str "obj" t, .ref C, .builtin "proto.slot", .builtin "proto.slot#set", rawInt 0] }
theorem weak_obj : Builtin.Slots.givesWeak (.type "object") = pure false := by kernel_rfl
noncomputable def kNs2 (t8 tl : Tok) (line : Nat) (sl sa f2 f3 f4 f5 f6 f7 md : Addr) : List (Str × Value) := [("__module__", .str "cpy313.functools" t8), ("__firstlineno__", .int line tl), ("__slots__", .ref sl), ("__init__", .ref f2), ("__lt__", .ref f3), ("__gt__", .ref f4), ("__eq__", .ref f5), ("__le__", .ref f6), ("__ge__", .ref f7), ("__hash__", .none), ("__static_attributes__", .ref sa), ("obj", .ref md), ("__doc__", .none)]
theorem kNs2_eq (t8 tq tl : Tok) (qual : Str) (line : Nat) (sl sa f2 f3 f4 f5 f6 f7 md : Addr) : lput "__doc__" Value.none (lput "obj" (Value.ref md) (ldel "__qualname__" (kNs t8 tq tl qual line sl sa f2 f3 f4 f5 f6 f7))) = kNs2 t8 tl line sl sa f2 f3 f4 f5 f6 f7 md := by kernel_rfl
noncomputable def kEs2 (t8 tl : Tok) (line : Nat) (sl sa f2 f3 f4 f5 f6 f7 md : Addr) (I : Nat → Int) (U : Nat → Tok) : List DictEntry :=
  [⟨I 0, .str "__module__" (U 0), .str "cpy313.functools" t8⟩, ⟨I 1, .str "__firstlineno__" (U 1), .int line tl⟩, ⟨I 2, .str "__slots__" (U 2), .ref sl⟩, ⟨I 3, .str "__init__" (U 3), .ref f2⟩, ⟨I 4, .str "__lt__" (U 4), .ref f3⟩, ⟨I 5, .str "__gt__" (U 5), .ref f4⟩, ⟨I 6, .str "__eq__" (U 6), .ref f5⟩, ⟨I 7, .str "__le__" (U 7), .ref f6⟩, ⟨I 8, .str "__ge__" (U 8), .ref f7⟩, ⟨I 9, .str "__hash__" (U 9), .none⟩, ⟨I 10, .str "__static_attributes__" (U 10), .ref sa⟩, ⟨I 11, .str "obj" (U 11), .ref md⟩, ⟨I 12, .str "__doc__" (U 12), .none⟩]
theorem kNs2_es {t8 tl : Tok} {line : Nat} {sl sa f2 f3 f4 f5 f6 f7 md : Addr} {es : List DictEntry} (pr : Paired (fun (e : DictEntry) (p : Str × Value) => (∃ t, e.key = .str p.1 t) ∧ e.val = p.2) es (kNs2 t8 tl line sl sa f2 f3 f4 f5 f6 f7 md)) :
    ∃ I U, es = kEs2 t8 tl line sl sa f2 f3 f4 f5 f6 f7 md I U := by
  obtain ⟨I, U, e⟩ := paired_es pr 0
  exact ⟨I, U, e⟩
theorem c_forAll {M : Model} {A : Around} {E : Value → Shared → Prop} {s : Shared} {body : DictEntry → PUnit → Sem (ForInStep PUnit)} {Q : PUnit → Shared → Prop} (es : List DictEntry) (hb : ∀ e ∈ es, ∀ R : ForInStep PUnit → Shared → Prop, R (.yield ⟨⟩) s → wpAny M A (body e ⟨⟩) R E s) (x : Q ⟨⟩ s) : wpAny M A (forIn es.toArray PUnit.unit body) Q E s := by
  rw [List.forIn_toArray]
  induction es with
  | nil => rw [List.forIn_nil]; exact wpAny_pure x
  | cons e r ih =>
    rw [List.forIn_cons]
    exact wpAny_bind (hb e (.head _) _ (ih fun e' he' => hb e' (.tail _ he')))
theorem tl_sn (T : String) (e : fastLookup T "__set_name__" = some none) : typeLookup (.type T) "__set_name__" = pure none := by rw [typeLookup_type, builtinLookup_eq_fast, e]
theorem sn_str (x : Str) (t : Tok) : specialOf (.str x t) "__set_name__" = pure none := by show typeLookup (.type "str") _ = _; exact tl_sn _ (by kernel_rfl)
theorem sn_int (x : Int) (t : Tok) : specialOf (.int x t) "__set_name__" = pure none := by show typeLookup (.type "int") _ = _; exact tl_sn _ (by kernel_rfl)
theorem sn_none : specialOf .none "__set_name__" = pure none := by show typeLookup (.type "NoneType") _ = _; exact tl_sn _ (by kernel_rfl)
theorem fl_fun : fastLookup "function" "__set_name__" = some none := by kernel_rfl
theorem fl_list : fastLookup "list" "__set_name__" = some none := by kernel_rfl
theorem fl_tup : fastLookup "tuple" "__set_name__" = some none := by kernel_rfl
theorem fl_md : fastLookup "member_descriptor" "__set_name__" = some none := by kernel_rfl
noncomputable def SN (M : Model) (st : Shared) (v : Value) : Prop := ∀ (A : Around) (Q : Option Value → Shared → Prop) (E : Value → Shared → Prop), Q none st → wpAny M A (specialOf v "__set_name__") Q E st
noncomputable def SNok (M : Model) (st : Shared) (e : DictEntry) : Prop := Builtin.laidUnderItsOwnName e.key e.val = false ∧ SN M st e.val
theorem SN.of_eq {M : Model} {st : Shared} {v : Value} (e : specialOf v "__set_name__" = pure none) : SN M st v := fun _ _ _ q => wpAny_of_eq e q
theorem sn_ref {M : Model} {X : List Addr} {h₀ h : Heap} {g : Array GenState} {d : Drawn} {tk : Nat} {os : OsState} {news : List (Addr × Obj)} {a : Addr} {o : Obj} {T : String} (D : Led X h₀ h news) (ha : (a, o) ∈ news) (hc : o.cls = .type T) (hf : fastLookup T "__set_name__" = some none) : SN M ⟨h, g, d, tk, os⟩ (.ref a) := by
  intro A Q E x
  refine wpAny_bind (wpAny_bind (wpAny_loadPart (D.at ha) (wpAny_pure ?_)))
  rw [hc, tl_sn T hf]
  exact wpAny_pure x
theorem alc {α : Type} {p : α → Prop} {a : α} {l : List α} (x : p a) (y : ∀ b ∈ l, p b) : ∀ b ∈ a :: l, p b := fun b hb => by
  cases hb with
  | head => exact x
  | tail _ hb => exact y b hb
theorem c_forAll2 {M : Model} {A : Around} {E : Value → Shared → Prop} {s : Shared} {body : DictEntry → PUnit → Sem (ForInStep PUnit)} {Q : PUnit → Shared → Prop} (es : List DictEntry) (hp : ∀ e ∈ es, SNok M s e) (hb : ∀ e, SNok M s e → ∀ R : ForInStep PUnit → Shared → Prop, R (.yield ⟨⟩) s → wpAny M A (body e ⟨⟩) R E s) (x : Q ⟨⟩ s) : wpAny M A (forIn es.toArray PUnit.unit body) Q E s :=
  c_forAll es (fun e he => hb e (hp e he)) x
noncomputable def kQ : Str := "cmp_to_key.<locals>.K"
noncomputable def kCls2 (C ns bT : Addr) (t tq : Tok) : Obj := ⟨.type "type", none, .cls { name := "K", bases := [.type "object"], mro := [.ref C, .type "object"], ns := ns, qualname := ("cmp_to_key.<locals>.K" : Str), hasDict := false, slotNames := ["obj"] }, #[some (.ref bT), none, some (.str "K" t), some (.str "cmp_to_key.<locals>.K" tq), some (.builtin "object.__new__"), some (.bool false)]⟩
noncomputable def kCls0 (ns : Addr) (qual : Str) : Obj := { cls := .type "type", data := .cls { name := "K", bases := [.type "object"], mro := [], ns := ns, qualname := qual } }
section
variable {prog : Program} {w : World} {A : Around} {E : Value → Shared → Prop} {hh h : Heap} {g : Array GenState} {d : Drawn} {tk : Nat} {os : OsState} {news rest : List (Addr × Obj)}
set_option maxHeartbeats 2000000 in
theorem c_typeNew {qual : Str} {line : Nat} {t t8 tq tl ts tz : Tok} {bT ns sl sa f2 f3 f4 f5 f6 f7 : Addr} {o F2 F3 F4 F5 F6 F7 : Obj} {Q : PySem.Fin → Shared → Prop} (hA : A.handled = none) (hu : A.units + 200 < cLine) (hq : qual = "cmp_to_key.<locals>.K") {mc : Str → Option Value} (hmc : hh.Ns 2 mc) (hth : mc "thirdparty.any" = none) (h166 : 166 ≤ hh.objs.size) (D : Led [111] hh h news)
    (hn : Rm (ns, o) news rest) (N : NsL o (kNs t8 tq tl qual line sl sa f2 f3 f4 f5 f6 f7)) (hb : (bT, { cls := .type "tuple", data := .seq #[.type "object"] }) ∈ rest) (h111 : ∃ p, (111, p) ∈ rest) (hsl : (sl, { cls := .type "list", data := .seq #[.str "obj" tz] }) ∈ rest) (hsa : (sa, { cls := .type "tuple", data := .seq #[.str "obj" ts] }) ∈ rest)
    (hf2 : (f2, F2) ∈ rest) (hf3 : (f3, F3) ∈ rest) (hf4 : (f4, F4) ∈ rest) (hf5 : (f5, F5) ∈ rest) (hf6 : (f6, F6) ∈ rest) (hf7 : (f7, F7) ∈ rest) (hF2 : F2.cls = .type "function") (hF3 : F3.cls = .type "function") (hF4 : F4.cls = .type "function") (hF5 : F5.cls = .type "function") (hF6 : F6.cls = .type "function") (hF7 : F7.cls = .type "function")
    (x : ∀ C ns2 md o2 tm h' tk', Led [111] hh h' ((ns2, o2) :: (C, kCls2 C ns2 bT t tq) :: (md, kMd C tm) :: news) → NsL o2 (kNs2 t8 tl line sl sa f2 f3 f4 f5 f6 f7 md) → Q (.done (.ret (.ref C))) ⟨h', g, d, tk', os⟩) :
    wpAny (model prog w) A (PySem.Builtin.«type.__new__» ⟨[.type "type", .str "K" t, .ref bT, .ref ns], []⟩) Q E ⟨h, g, d, tk, os⟩ := by
  subst hq
  have hb' := hn.perm.mem_iff.mpr (.tail _ hb)
  have hn' := hn.mem
  have ghsl := hn.perm.mem_iff.mpr (.tail _ hsl)
  have ghsa := hn.perm.mem_iff.mpr (.tail _ hsa)
  have ghf2 := hn.perm.mem_iff.mpr (.tail _ hf2)
  have ghf3 := hn.perm.mem_iff.mpr (.tail _ hf3)
  have ghf4 := hn.perm.mem_iff.mpr (.tail _ hf4)
  have ghf5 := hn.perm.mem_iff.mpr (.tail _ hf5)
  have ghf6 := hn.perm.mem_iff.mpr (.tail _ hf6)
  have ghf7 := hn.perm.mem_iff.mpr (.tail _ hf7)
  have hns : hh.objs.size ≤ ns := let ⟨p, hp⟩ := h111; D.new1 hn hp
  obtain ⟨es, n0, rfl, pr⟩ := id N
  obtain ⟨I, U, rfl⟩ := kNs_es pr
  refine wpAny_bind ?_
  repeat ((fail_if_success with_reducible (first | refine st_call ?_ | refine st_getAttrO ?_ | refine st_getAttr ?_ | refine st_slotsRead ?_ | refine st_collect ?_)); walk_at "ckd")
  refine c_neg (by show ¬ ((ns == 1) = true); rw [beq_iff_eq]; exact Nat.ne_of_gt (Nat.lt_of_lt_of_le (by decide) (Nat.le_trans h166 hns))) ?_
  repeat ((fail_if_success with_reducible (first | refine st_call ?_ | refine st_getAttrO ?_ | refine st_getAttr ?_ | refine st_slotsRead ?_ | refine st_collect ?_)); walk_at "ckd")
  refine c_slotsRead hA D (hn.perm.mem_iff.mpr (.tail _ hsl)) fun h1 tk1 D1 => ?_
  repeat ((fail_if_success with_reducible (first | refine st_call ?_ | refine st_getAttrO ?_ | refine st_getAttr ?_ | refine st_slotsRead ?_ | refine st_collect ?_ | refine st_nsGet ?_)); walk_at "ckd")
  rename_i ns2 h2 D2
  have N2 : NsL { cls := .type "dict", data := .dict (kEs t8 tq tl kQ line sl sa f2 f3 f4 f5 f6 f7 I U).toArray } (kNs t8 tq tl kQ line sl sa f2 f3 f4 f5 f6 f7) := ⟨_, 0, rfl, pr⟩
  clear N pr
  repeat ((fail_if_success with_reducible (first | refine st_call ?_ | refine st_getAttrO ?_ | refine st_getAttr ?_ | refine st_slotsRead ?_ | refine st_collect ?_ | refine st_setSlotAt ?_)); walk_at "ckd")
  rename_i C h3 D3
  have D3 : Led [111] hh h3 ((C, kCls0 ns2 kQ) :: (ns2, _) :: news) := D3
  repeat ((fail_if_success with_reducible (first | refine st_call ?_ | refine st_getAttrO ?_ | refine st_getAttr ?_ | refine st_slotsRead ?_ | refine st_collect ?_ | refine st_updateCls ?_)); walk_at "ckd")
  refine wpAny_of_eq (congrArg _ (filt C)) ?_
  repeat ((fail_if_success with_reducible (first | refine st_call ?_ | refine st_getAttrO ?_ | refine st_getAttr ?_ | refine st_slotsRead ?_ | refine st_collect ?_ | refine st_updateCls ?_)); walk_at "ckd")
  rename Led _ _ _ _ => D4
  refine' c_updateCls D4 ?cm ?cd ?cf ?cp ?_
  case cm => walk_at "rm"
  case cd => exact rfl
  case cf => exact rfl
  case cp => exact rfl
  intro h5 D5
  have D5 := D5.conv (o' := kCls1 C ns2 bT kQ t tq none none true []) (by kernel_rfl!)
  clear D4 D3
  refine wpAny_bind (wpAny_of_eq made_obj ?_)
  refine wpAny_bind ?_
  refine c_setSlotAt D5 (.hit _) rfl (by decide) fun h6 D6 => ?_
  have D6 := D6.conv (o' := kCls1 C ns2 bT kQ t tq (some (.builtin "object.__new__")) none true []) (by kernel_rfl!)
  clear D5
  repeat ((fail_if_success with_reducible (first | refine st_typeLookup ?_ | refine st_nsSetByValue ?_ | refine st_updateCls ?_ | refine st_nsGet ?_)); walk_at "ckd")
  rename NsL _ (ldel _ _) => N3
  refine c_typeLookupC D6 (.head _) rfl rfl (.tail _ (.head _)) N3 own_new ?_
  repeat ((fail_if_success with_reducible (first | refine st_typeLookup ?_ | refine st_nsSetByValue ?_ | refine st_updateCls ?_ | refine st_nsGet ?_)); walk_at "ckd")
  refine c_nsGet D6 (.tail _ (.head _)) N3 ?_
  repeat ((fail_if_success with_reducible (first | refine st_typeLookup ?_ | refine st_nsSetByValue ?_ | refine st_updateCls ?_ | refine st_nsGet ?_)); walk_at "ckd")
  rename_i md h7 D7
  have D7 := D7.conv (o' := kMd C tk1) (by kernel_rfl!)
  refine c_nsSetV D7 (by walk_at "rm") N3 (by show ¬ 11 > sizeLine; decide) fun o8 h8 N8 D8 => ?_
  repeat ((fail_if_success with_reducible (first | refine st_call ?_ | refine st_getAttrO ?_ | refine st_getAttr ?_ | refine st_slotsRead ?_ | refine st_collect ?_ | refine st_dictEntries ?_ | refine st_typeLookup ?_ | refine st_givesWeak ?_ | refine st_nsSetByValue ?_ | refine st_updateCls ?_ | refine st_setSlotAt ?_)); walk_at "ckd")
  refine' c_updateCls D8 ?cm ?cd ?cf ?cp ?_
  case cm => walk_at "rm"
  case cd => exact rfl
  case cf => exact rfl
  case cp => exact rfl
  intro h9 D9
  have D9 := D9.conv (o' := kCls1 C ns2 bT kQ t tq (some (.builtin "object.__new__")) none false ["obj"]) (by kernel_rfl!)
  repeat ((fail_if_success with_reducible (first | refine st_call ?_ | refine st_getAttrO ?_ | refine st_getAttr ?_ | refine st_slotsRead ?_ | refine st_collect ?_ | refine st_dictEntries ?_ | refine st_typeLookup ?_ | refine st_givesWeak ?_ | refine st_nsSetByValue ?_ | refine st_updateCls ?_ | refine st_setSlotAt ?_)); walk_at "ckd")
  refine wpAny_of_eq weak_obj ?_
  repeat ((fail_if_success with_reducible (first | refine st_call ?_ | refine st_getAttrO ?_ | refine st_getAttr ?_ | refine st_slotsRead ?_ | refine st_collect ?_ | refine st_dictEntries ?_ | refine st_typeLookup ?_ | refine st_givesWeak ?_ | refine st_nsSetByValue ?_ | refine st_updateCls ?_ | refine st_setSlotAt ?_)); walk_at "ckd")
  refine c_setSlotAt D9 (by walk_at "rm") rfl (by decide) fun h10 D10 => ?_
  have D10 := D10.conv (o' := kCls2 C ns2 bT t tq) (by kernel_rfl!)
  clear D9 D8 D7 D6
  repeat ((fail_if_success with_reducible (first | refine st_call ?_ | refine st_getAttrO ?_ | refine st_getAttr ?_ | refine st_slotsRead ?_ | refine st_collect ?_ | refine st_dictEntries ?_ | refine st_typeLookup ?_ | refine st_givesWeak ?_ | refine st_nsSetByValue ?_ | refine st_updateCls ?_ | refine st_setSlotAt ?_)); walk_at "ckd")
  rename_i o11 h11 N11 D11
  rw [kNs2_eq] at N11
  obtain ⟨es2, n2, rfl, pr2⟩ := id N11
  obtain ⟨J, Y, rfl⟩ := kNs2_es pr2
  repeat ((fail_if_success with_reducible (first | refine st_call ?_ | refine st_getAttrO ?_ | refine st_getAttr ?_ | refine st_slotsRead ?_ | refine st_collect ?_ | refine st_specialOf ?_ | refine st_forU ?_)); walk_at "ckd")
  refine c_forAll2 (kEs2 t8 tl line sl sa f2 f3 f4 f5 f6 f7 md J Y) ?sn ?body ?_
  case sn => exact alc ⟨rfl, .of_eq (sn_str _ _)⟩ (alc ⟨rfl, .of_eq (sn_int _ _)⟩ (alc ⟨rfl, sn_ref D11 (by walk_at "memb") rfl fl_list⟩ (alc ⟨rfl, sn_ref D11 (by walk_at "memb") hF2 fl_fun⟩ (alc ⟨rfl, sn_ref D11 (by walk_at "memb") hF3 fl_fun⟩ (alc ⟨rfl, sn_ref D11 (by walk_at "memb") hF4 fl_fun⟩ (alc ⟨rfl, sn_ref D11 (by walk_at "memb") hF5 fl_fun⟩ (alc ⟨rfl, sn_ref D11 (by walk_at "memb") hF6 fl_fun⟩ (alc ⟨rfl, sn_ref D11 (by walk_at "memb") hF7 fl_fun⟩ (alc ⟨rfl, .of_eq sn_none⟩ (alc ⟨rfl, sn_ref D11 (by walk_at "memb") rfl fl_tup⟩ (alc ⟨rfl, sn_ref D11 (by walk_at "memb") rfl fl_md⟩ (alc ⟨rfl, .of_eq sn_none⟩ (fun _ hm => nomatch hm)))))))))))))
  case body =>
    intro e he R r
    refine c_negB he.1 ?_
    repeat ((fail_if_success with_reducible (first | refine st_call ?_ | refine st_getAttrO ?_ | refine st_getAttr ?_ | refine st_slotsRead ?_ | refine st_collect ?_ | refine st_specialOf ?_ | refine st_forU ?_)); walk_at "ckd")
    refine he.2 _ _ _ ?_
    repeat ((fail_if_success with_reducible (first | refine st_call ?_ | refine st_getAttrO ?_ | refine st_getAttr ?_ | refine st_slotsRead ?_ | refine st_collect ?_ | refine st_specialOf ?_ | refine st_forU ?_)); walk_at "ckd")
    exact r
  repeat ((fail_if_success with_reducible (first | refine st_call ?_ | refine st_getAttrO ?_ | refine st_getAttr ?_ | refine st_slotsRead ?_ | refine st_collect ?_)); walk_at "ckd")
  refine sup1 hA (by lia) D11 (D11.at (show (C, kCls2 C ns2 bT t tq) ∈ _ by walk_at "memb")) fun s h12 tk12 D12 => ?_
  repeat ((fail_if_success with_reducible (first | refine st_call ?_ | refine st_getAttrO ?_ | refine st_getAttr ?_ | refine st_slotsRead ?_ | refine st_collect ?_)); walk_at "ckd")
  refine sup2 hA hu D12 (.head _) (show (C, kCls2 C ns2 bT t tq) ∈ _ by walk_at "memb") (fun b h13 tk13 D13 => ?_) (by decide) hmc hth
  repeat ((fail_if_success with_reducible (first | refine st_call ?_ | refine st_getAttrO ?_ | refine st_getAttr ?_ | refine st_slotsRead ?_ | refine st_collect ?_)); walk_at "ckd")
  refine is2 hA hu D13 (.head _) (show (C, kCls2 C ns2 bT t tq) ∈ _ by walk_at "memb") (show (ns2, dictOf _ _) ∈ _ by walk_at "memb") ?_ (by decide) hmc hth
  repeat ((fail_if_success with_reducible (first | refine st_call ?_ | refine st_getAttrO ?_ | refine st_getAttr ?_ | refine st_slotsRead ?_ | refine st_collect ?_)); walk_at "ckd")

  exact x C ns2 md _ _ _ _ ((D13.drop (.hit _)).drop (.hit _)) N11
end
end

-- D9
section
open PySem PySem.W PyProof.Rows PySem.Calls
open PySem.W.X (Mem tableObj hasCls away)
section
variable {prog : Program} {w : World} {A : Around} {E : Value → Shared → Prop} {hh h : Heap} {g : Array GenState} {d : Drawn} {tk : Nat} {os : OsState} {news rest : List (Addr × Obj)}
section
theorem tinit {C ns bT nd : Addr} {t tq tk' : Tok} {Q : Value → Shared → Prop} (hA : A.handled = none) (hu : A.units + 100 < cLine) (hC : h.get? C = some (kCls2 C ns bT t tq)) (hx : Q .none ⟨h, g, d, tk, os⟩) :
    wpAny (model prog w) A (call (.builtin "type.__init__") [.ref C, .str "K" tk', .ref bT, .ref nd] []) Q E ⟨h, g, d, tk, os⟩ := by
  unfold kCls2 at hC
  refine wpAny_gr ?_
  x_run
end
set_option maxHeartbeats 4000000 in
theorem c_type {qual : Str} {line : Nat} {t t8 tq tl ts tz : Tok} {bT ns sl sa f2 f3 f4 f5 f6 f7 : Addr} {o F2 F3 F4 F5 F6 F7 : Obj} {Q : Value → Shared → Prop} (hA : A.handled = none) (hu : A.units + 300 < cLine) (hq : qual = "cmp_to_key.<locals>.K") {mc : Str → Option Value} (hmc : hh.Ns 2 mc) (hth : mc "thirdparty.any" = none) (h166 : 166 ≤ hh.objs.size) (D : Led [111] hh h news)
    (hn : Rm (ns, o) news rest) (N : NsL o (kNs t8 tq tl qual line sl sa f2 f3 f4 f5 f6 f7)) (hb : (bT, { cls := .type "tuple", data := .seq #[.type "object"] }) ∈ rest) (h111 : ∃ p, (111, p) ∈ rest) (hsl : (sl, { cls := .type "list", data := .seq #[.str "obj" tz] }) ∈ rest) (hsa : (sa, { cls := .type "tuple", data := .seq #[.str "obj" ts] }) ∈ rest)
    (hf2 : (f2, F2) ∈ rest) (hf3 : (f3, F3) ∈ rest) (hf4 : (f4, F4) ∈ rest) (hf5 : (f5, F5) ∈ rest) (hf6 : (f6, F6) ∈ rest) (hf7 : (f7, F7) ∈ rest) (hF2 : F2.cls = .type "function") (hF3 : F3.cls = .type "function") (hF4 : F4.cls = .type "function") (hF5 : F5.cls = .type "function") (hF6 : F6.cls = .type "function") (hF7 : F7.cls = .type "function")
    (x : ∀ C ns2 md o2 tm h' tk', Led [111] hh h' ((ns2, o2) :: (C, kCls2 C ns2 bT t tq) :: (md, kMd C tm) :: news) → NsL o2 (kNs2 t8 tl line sl sa f2 f3 f4 f5 f6 f7 md) → Q (.ref C) ⟨h', g, d, tk', os⟩) :
    wpAny (model prog w) A (call (.type "type") [.str "K" t, .ref bT, .ref ns] []) Q E ⟨h, g, d, tk, os⟩ := by
  refine wpAny_call (codeAny_of_tree ?_)
  show wpAny _ _ (callAny (.type "type") _) _ _ _
  refine wpAny_pure ⟨Code.quiet_builtin _ (by decide +kernel), codeAny_builtin F.entry_type_call ?_⟩
  unfold PySem.Builtin.«type.__call__»
  repeat walk_at "ck"
  rw [show (toString "type" ++ toString "." ++ toString (Str.ofString "__new__").toString) = "type.__new__" from by decide +kernel]
  refine wpAny_call (codeAny_call_builtin_at (Code.quiet_builtin _ (by decide +kernel)) e_type_new (wpAny_of_eq (k_type_new _ _ _) ?_))
  refine c_typeNew (bT := bT) (ns := ns) (t := t) hA ?_ hq hmc hth h166 D hn N hb h111 hsl hsa hf2 hf3 hf4 hf5 hf6 hf7 hF2 hF3 hF4 hF5 hF6 hF7 fun C ns2 md o2 tm h' tk' D' N' => ?_
  · have e1 : (Code.builtin "type.__call__" { pos := Value.type "type" :: [Value.str (Str.ofString "K") t, Value.ref bT, Value.ref ns] }).cUnits ≤ 1 := by
      first | exact Nat.le_of_eq (by kernel_rfl!) | (rw [show (Code.builtin "type.__call__" { pos := Value.type "type" :: [Value.str (Str.ofString "K") t, Value.ref bT, Value.ref ns] }).cUnits = 0 from by kernel_rfl!]; decide)
    have e2 : (Code.builtin "type.__new__" { pos := Value.type "type" :: [Value.str (Str.ofString "K") t, Value.ref bT, Value.ref ns] }).cUnits ≤ 1 := by
      first | exact Nat.le_of_eq (by kernel_rfl!) | (rw [show (Code.builtin "type.__new__" { pos := Value.type "type" :: [Value.str (Str.ofString "K") t, Value.ref bT, Value.ref ns] }).cUnits = 0 from by kernel_rfl!]; decide)
    show A.units + (Code.builtin "type.__call__" { pos := Value.type "type" :: [Value.str (Str.ofString "K") t, Value.ref bT, Value.ref ns] }).cUnits + (Code.builtin "type.__new__" { pos := Value.type "type" :: [Value.str (Str.ofString "K") t, Value.ref bT, Value.ref ns] }).cUnits + 200 < _
    lia
  dsimp only
  repeat walk_at "ck"
  rw [show (toString "type" ++ toString "." ++ toString (Str.ofString "__init__").toString) = "type.__init__" from by decide +kernel]
  refine tinit (C := C) (ns := ns2) (bT := bT) (nd := ns) (t := t) (tq := tq) hA ?_ (D'.at (by walk_at "memb")) ?_
  · have e1 : (Code.builtin "type.__call__" { pos := Value.type "type" :: [Value.str (Str.ofString "K") t, Value.ref bT, Value.ref ns] }).cUnits ≤ 1 := Nat.le_of_eq (by kernel_rfl!)
    show A.units + (Code.builtin "type.__call__" { pos := Value.type "type" :: [Value.str (Str.ofString "K") t, Value.ref bT, Value.ref ns] }).cUnits + 100 < _
    lia
  repeat walk_at "ck"
  exact x C ns2 md o2 tm h' tk' D' N'
end
end

-- D10
section
open PySem PySem.W PyProof.Rows PySem.Calls
open PySem.W.X (Mem tableObj hasCls away)
set_option genInjectivity false in
set_option genSizeOf false in
/-- where the class's things lie -/
structure KIx where
  (ns md f2 cf2 f3 cf3 f4 cf4 f5 cf5 f6 cf6 f7 cf7 cl : Addr)
noncomputable def KIx.all (k : KIx) : List Addr := [k.ns, k.md, k.f2, k.cf2, k.f3, k.cf3, k.f4, k.cf4, k.f5, k.cf5, k.f6, k.cf6, k.f7, k.cf7]
noncomputable def FnAt (h : Heap) (f cf : Addr) (pm : Value) (i : Nat) (clos : List (Str × Addr)) : Prop := ∃ doc ctv co, h.get? f = some (kFn "cmp_to_key.<locals>.K" pm i clos doc cf ctv) ∧ h.get? cf = some co ∧ CodeQ co (Str.ofString "cmp_to_key.<locals>.K" ++ "." ++ fname (kDef i))
/-- the class stands -/
noncomputable def KAt (k : KIx) (C : Addr) (pm : Value) (h : Heap) : Prop :=
  (∃ bT t tq, h.get? C = some (kCls2 C k.ns bT t tq)) ∧ (∃ o2 t8 tl line sl sa, h.get? k.ns = some o2 ∧ NsL o2 (kNs2 t8 tl line sl sa k.f2 k.f3 k.f4 k.f5 k.f6 k.f7 k.md)) ∧ (∃ tm, h.get? k.md = some (kMd C tm)) ∧
  FnAt h k.f2 k.cf2 pm 2 [] ∧ FnAt h k.f3 k.cf3 pm 3 [("mycmp", k.cl)] ∧ FnAt h k.f4 k.cf4 pm 4 [("mycmp", k.cl)] ∧ FnAt h k.f5 k.cf5 pm 5 [("mycmp", k.cl)] ∧ FnAt h k.f6 k.cf6 pm 6 [("mycmp", k.cl)] ∧ FnAt h k.f7 k.cf7 pm 7 [("mycmp", k.cl)]
theorem FnAt.keep {h h' : Heap} {U : List Addr} {f cf : Addr} {pm : Value} {i : Nat} {clos : List (Str × Addr)} (x : FnAt h f cf pm i clos) (k : KX U h h') (h1 : f ∉ U) (h2 : cf ∉ U) : FnAt h' f cf pm i clos :=
  let ⟨doc, ctv, co, a, b, c⟩ := x; ⟨doc, ctv, co, k.keep _ _ h1 a, k.keep _ _ h2 b, c⟩
theorem FnAt.lt {h : Heap} {f cf : Addr} {pm : Value} {i : Nat} {clos : List (Str × Addr)} (x : FnAt h f cf pm i clos) : f < h.objs.size ∧ cf < h.objs.size :=
  let ⟨_, _, _, a, b, _⟩ := x; ⟨Heap.lt_size a, Heap.lt_size b⟩
theorem KAt.keep {k : KIx} {C : Addr} {pm : Value} {h h' : Heap} {U : List Addr} (x : KAt k C pm h) (kx : KX U h h') (hU : ∀ a ∈ C :: k.all, a ∉ U) : KAt k C pm h' :=
  have m : ∀ i a, (C :: k.all)[i]? = some a → a ∉ U := fun i a e => hU a (List.mem_of_getElem? e)
  ⟨x.1.imp fun _ => Exists.imp fun _ => Exists.imp fun _ y => kx.keep _ _ (m 0 _ rfl) y,
   x.2.1.imp fun _ => Exists.imp fun _ => Exists.imp fun _ => Exists.imp fun _ => Exists.imp fun _ => Exists.imp fun _ y => ⟨kx.keep _ _ (m 1 _ rfl) y.1, y.2⟩,
   x.2.2.1.imp fun _ y => kx.keep _ _ (m 2 _ rfl) y, x.2.2.2.1.keep kx (m 3 _ rfl) (m 4 _ rfl), x.2.2.2.2.1.keep kx (m 5 _ rfl) (m 6 _ rfl), x.2.2.2.2.2.1.keep kx (m 7 _ rfl) (m 8 _ rfl), x.2.2.2.2.2.2.1.keep kx (m 9 _ rfl) (m 10 _ rfl), x.2.2.2.2.2.2.2.1.keep kx (m 11 _ rfl) (m 12 _ rfl), x.2.2.2.2.2.2.2.2.keep kx (m 13 _ rfl) (m 14 _ rfl)⟩
theorem Dep.kat (k : KIx) (C : Addr) (pm : Value) : Dep (C :: k.all) (KAt k C pm) := fun U hu _ _ kx x => x.keep kx fun a ha hm => hu a hm ha
theorem Led.ix {X : List Addr} {h₀ h : Heap} {news : List (Addr × Obj)} (D : Led X h₀ h news) {a : Addr} {o : Obj} (i : Nat) (e : news[i]? = some (a, o)) : h.get? a = some o := (D.nw _ (List.mem_of_getElem? e)).1
theorem Led.newAll {P : Addr} {h₀ h : Heap} {news : List (Addr × Obj)} (D : Led [P] h₀ h news) {l : List Addr} (is : List Nat) (j : Nat) (e : is.map (fun i => (news.map (·.1))[i]?) = l.map some) (hp : (news.map (·.1))[j]? = some P) (hj : ∀ i ∈ is, i ≠ j) : ∀ a ∈ l, h₀.objs.size ≤ a := by
  intro a ha
  have m : some a ∈ l.map some := List.mem_map_of_mem ha
  rw [← e] at m
  obtain ⟨i, hi, he⟩ := List.mem_map.mp m
  obtain ⟨p, hp1, hp2⟩ := List.mem_map.mp (List.mem_of_getElem? he)
  rcases (D.nw p hp1).2 with h1 | h1
  · rw [← hp2]; exact h1
  · have : a = P := by rw [← hp2]; exact List.mem_singleton.mp h1
    subst this
    obtain ⟨hl, _⟩ := List.getElem?_eq_some_iff.mp he
    exact absurd ((List.getElem?_inj hl D.nd).mp (he.trans hp.symm)) (hj i hi)
theorem kNs_eq (nm : Value) (tq tl : Tok) (qual : Str) (line : Nat) (sl sa f2 f3 f4 f5 f6 f7 : Addr) (t8 : Tok) :
    lput "__static_attributes__" (Value.ref sa) (kL (lput "__firstlineno__" (Value.int line tl) (lput "__qualname__" (Value.str qual tq) (lput "__module__" nm []))) sl t8 f2 f3 f4 f5 f6 f7) = kNs t8 tq tl qual line sl sa f2 f3 f4 f5 f6 f7 := by kernel_rfl
section
variable {prog : Program} {w : World} {A : Around} {mg mb : Str → Option Value}
set_option maxHeartbeats 4000000 in
theorem bc1 {hh : Heap} {g : Array GenState} {d : Drawn} {tk : Nat} {os : OsState} {env : Env} {qual : Str} {pos : Pos} {line : Nat} {Q : Value → Shared → Prop} {E : Value → Shared → Prop} {ps : Array Value} {cl : Addr} {nm : Value}
    (hA : A.handled = none) (hdp : A.depth < recursionLimit) (h166 : 166 ≤ hh.objs.size) (Ng : hh.Ns 3 mg) (Nb : hh.Ns 0 mb) (NL : hh.NoLimit) (hb : BA mg hh) (egl : env.globals = 3) (ebl : env.builtins = 0)
    (ecode : env.code = .ref 115) (C : CodeHd hh 115 111) (hP : hh.get? 111 = some (tabObj ps)) (ht : TriplesOk ps.toList) (hnf : codeAmong pos ps.toList = none) (hnm : mg "__name__" = some nm) (hclo : closureFor kScope env = pure [(("mycmp" : Str), cl)])
    (hu : A.units + 400 < cLine) (hq : qual = "cmp_to_key.<locals>.K") {mc : Str → Option Value} (hmc : hh.Ns 2 mc) (hth : mc "thirdparty.any" = none)
    (x : ∀ C k c h' tk', KX [111] hh h' → KAt k C ((mg "__name__").getD .none) h' → k.cl = cl → (∀ a ∈ C :: k.all, hh.objs.size ≤ a) → h'.get? 111 = some (tabObj (ps ++ #[rawInt pos.line, rawInt pos.col, .ref c])) → Q (.ref C) ⟨h', g, d, tk', os⟩) :
   wpAny (model prog w) A (buildClass "K" qual [.type "object"] [] kBody kScope ["obj"] line env pos none) Q E ⟨hh, g, d, tk, os⟩ := by
  subst hq
  have hX : Hi [111] := fun a ha => by cases List.mem_singleton.mp ha; exact .inr (.inl rfl)
  have D := Led.start1 hP
  unfold buildClass
  repeat walk_at "cka"
  rename_i bT h0a D0a
  refine prep1 hA (by assumption) fun a1 h1 tk1 D1 => ?_
  repeat walk_at "cka"
  refine prep2 hA (by assumption) (by walk_at "memb") fun ns h2 tk2 D2 => ?_
  have hns : hh.objs.size ≤ ns := D2.new1 (by walk_at "rm") (by walk_at "memb")
  repeat walk_at "cka"
  refine c_neg (by show ¬ ((ns == 1) = true); rw [beq_iff_eq]; exact Nat.ne_of_gt (Nat.lt_of_lt_of_le (by decide) (Nat.le_trans h166 hns))) ?_
  repeat walk_at "cka"
  refine c_classCode D2 ecode (codeHd_kx C D2.kx (by decide)) (by walk_at "rm") ht hnf fun c P oc h3 tk3 D3 O3 Q3 ne3 => ?_
  repeat walk_at "cka"
  try dsimp only
  rw [egl, ebl]
  have Ng3 := D3.ns (by decide) Ng
  refine (c_builtinsFor Ng3 (hb.at D3.kx hX (.inr (.inl rfl))) ?_)
  repeat walk_at "cka"
  refine wpAny_nsGet Ng3 ?_
  repeat walk_at "cka"
  try dsimp only
  rw [hclo]
  repeat walk_at "cka"
  rename_i fr h4 D4
  refine wpAny_enterFrame (show Heap.NoLimit _ from let ⟨mc, x, y⟩ := NL; ⟨mc, D4.ns (by decide) x, y⟩) hdp ?_
  repeat walk_at "cka"
  refine c_nsGet D4 (by walk_at "memb") nsl_nil ?_
  repeat walk_at "cka"
  refine wpAny_nsGet (D4.ns (a := 3) (by decide) Ng) ?_
  try dsimp only
  rw [hnm]
  repeat walk_at "cka"
  refine c_store (ns := ns) D4 rfl (by rfl) rfl (by walk_at "rm") nsl_nil fun o5 h5 N5 D5 => ?_
  repeat walk_at "cka"
  refine c_store2 (ns := ns) D5 rfl (by rfl) (by rfl) (by rfl) rfl (by walk_at "rm") N5 fun o6 h6 N6 D6 => ?_
  repeat walk_at "cka"
  refine c_store2 (ns := ns) D6 rfl (by rfl) (by rfl) (by rfl) rfl (by walk_at "rm") N6 fun o7 h7 N7 D7 => ?_
  repeat walk_at "cka"
  have D7' : Led [111] hh h7 _ := D7.drop (p := (fr, _)) (by walk_at "rm")
  refine wpAny_run (codeAny_body (by rfl) (by rfl) ?_)
  refine kbody_ (ns := ns) (c := c) (fr := fr) (cl := cl) (qual := "cmp_to_key.<locals>.K") D7' hX Ng hb O3 ne3 (Nat.le_trans h166 (D7'.new1 (a := P) (by walk_at "rm") (by walk_at "memb"))) N7 fun o8 sl t8 t9 f2 cf2 co2 ctv2 doc2 f3 cf3 co3 ctv3 doc3 f4 cf4 co4 ctv4 doc4 f5 cf5 co5 ctv5 doc5 f6 cf6 co6 ctv6 doc6 f7 cf7 co7 ctv7 doc7 h8 tk8 D8 N8 q2 q3 q4 q5 q6 q7 => ?_
  dsimp only
  repeat walk_at "cka"
  rename_i sa h9 D9
  refine c_store2 (ns := ns) D9 rfl (by rfl) (by rfl) (by rfl) rfl (by walk_at "rm") N8 fun o9 h10 N9 D10 => ?_
  repeat walk_at "cka"
  rw [kNs_eq] at N9
  rw [show Value.type ((Manifest.find? "object").elim "type" fun x => x.metatype) = Value.type "type" from by kernel_rfl!]
  refine c_type (bT := bT) (ns := ns) (qual := "cmp_to_key.<locals>.K") hA (by lia) rfl hmc hth h166 D10 (.hit _) N9 (by walk_at "memb") ⟨_, by walk_at "memb"⟩ (by walk_at "memb") (.head _) (by walk_at "memb") (by walk_at "memb") (by walk_at "memb") (by walk_at "memb") (by walk_at "memb") (by walk_at "memb") rfl rfl rfl rfl rfl rfl fun C ns2 md o2 tm h11 tk11 D11 N11 => ?_
  repeat walk_at "cka"
  exact x C ⟨ns2, md, f2, cf2, f3, cf3, f4, cf4, f5, cf5, f6, cf6, f7, cf7, cl⟩ c h11 tk11 D11.kx ⟨⟨bT, _, _, D11.ix 1 rfl⟩, ⟨o2, _, _, _, _, _, D11.ix 0 rfl, N11⟩, ⟨tm, D11.ix 2 rfl⟩, ⟨doc2, ctv2, co2, D11.ix 15 rfl, D11.ix 16 rfl, q2⟩, ⟨doc3, ctv3, co3, D11.ix 13 rfl, D11.ix 14 rfl, q3⟩, ⟨doc4, ctv4, co4, D11.ix 11 rfl, D11.ix 12 rfl, q4⟩, ⟨doc5, ctv5, co5, D11.ix 9 rfl, D11.ix 10 rfl, q5⟩, ⟨doc6, ctv6, co6, D11.ix 7 rfl, D11.ix 8 rfl, q6⟩, ⟨doc7, ctv7, co7, D11.ix 5 rfl, D11.ix 6 rfl, q7⟩⟩ rfl (D11.newAll [1, 0, 2, 15, 16, 13, 14, 11, 12, 9, 10, 7, 8, 5, 6] 19 rfl rfl (by decide)) (D11.ix 19 rfl)
end
end

-- D11
section
open PySem PySem.W PyProof.Rows PySem.Calls
open PySem.W.X (Mem tableObj hasCls away)

variable {prog : Program} {w : World} {A : Around} {mg mb : Str → Option Value} {h : Heap}
noncomputable def kPos : Pos := ⟨159, 4, 180, 23⟩
theorem cmpToKey {ps : Array Value} {nm : Value} {mc : Str → Option Value} {Q : Value → Heap → Prop} {n : Nat} (OK : Ok A (n + 60)) (G : Gd mg mb h) (hb : BA mg h) (C : CodeHd h 115 111) (hP : h.get? 111 = some (tabObj ps)) (ht : TriplesOk ps.toList) (hnf : codeAmong kPos ps.toList = none) (hnm : mg "__name__" = some nm)
    (hob : mg "object" = none ∧ mb "object" = some (.type "object")) (hbc : mb "__build_class__" = some (.builtin "__build_class__")) (hmc : h.Ns 2 mc) (hrl : mc "sys.recursionlimit" = none) (hth : mc "thirdparty.any" = none)
    (q : ∀ C k c h', KX [111] h h' → KAt k C nm h' → h'.IsCell k.cl (some (.ref 147)) → (∀ a ∈ C :: k.cl :: k.all, h.objs.size ≤ a) → h'.get? 111 = some (tabObj (ps ++ #[rawInt kPos.line, rawInt kPos.col, .ref c])) → Q (.ref C) h') :
    hw (model prog w) A (call (.ref 116) [.ref 147]) Q h := by
  refine hw_fnC 10 10 19 rfl rfl [("mycmp", .ref 147)] ["mycmp"] [h.objs.size, h.objs.size + 1] (fun _ => True) OK G rfl (by rfl) (by decide) rfl (by rfl) (by decide) trivial (DepIn.true _) ?_ rfl
  intro A' h₁ OK' S
  show hw (model prog w) A' (execs (kStmt :: (fbody (fstmt 19)).drop 1) _) _ h₁
  refine hw_cons ?_
  have k1 := S.base
  have hloc := S.locals_lt
  have Ng := S.g.g
  have Nb := S.g.b
  show hw (model prog w) A' (exec (.ClassDef "K" [.Name "object" ⟨159, 12, 159, 18⟩] [] kBody [] [] kScope none "K" ["obj"] kPos) _) _ _
  rw [arm_exec_ClassDef]
  intro s e
  obtain ⟨hh, g, d, tk, os⟩ := s
  subst e
  have LB : Looks (model prog w) hh (nsGet (callEnvC (fdat 19 .none .none (.str "cpy313.functools" 318) 115) h.objs.size 116).builtins "__build_class__") (some (.builtin "__build_class__")) := looks_ns Nb hbc
  repeat walk_at "cka"
  refine Looks.at LB ?_
  repeat walk_at "cka"
  refine evalArgs_plain (spliced_cons ?_)
  show wpAny _ _ (eval (.Name "object" ⟨159, 12, 159, 18⟩) _) _ _ _
  refine Name_function_global (by rfl) (by rfl) (loadGlobal_builtin Ng hob.1 Nb hob.2 ?_) (by decide)
  refine spliced_nil ?_
  repeat walk_at "cka"
  have h166 : 166 ≤ hh.objs.size := S.g.sz
  have z161 : ∀ {a : Addr}, h.objs.size ≤ a → a ∉ ([111] : List Addr) := fun ha hm => by
    cases List.mem_singleton.mp hm
    exact absurd (Nat.le_trans G.sz ha) (by decide)
  refine bc1 (ps := ps) (cl := h.objs.size + 1) (nm := nm) (mg := mg) (mb := mb) (mc := mc) OK'.hd (by have := OK'.dp; lia) h166 Ng Nb S.g.lim ?_ rfl rfl rfl (codeHd_kx C k1 (fun hm => nomatch hm)) (k1.all _ _ hP) ht hnf hnm (by rfl) (by have := OK'.un; lia) (by rfl) (ns_keep hmc k1 (fun hm => nomatch hm)) hth fun K k c h' tk' kx KA hcl hnew h111 => ?_
  · obtain ⟨bm, o, a1, a2, a3, a4, a5, a6, a7, a8⟩ := hb
    exact ⟨bm, o, a1, a2, a3, a4, a5, a6, k1.all _ _ a7, a8⟩
  repeat walk_at "cka"
  rw [hnm] at KA
  have nl : ∀ {a : Addr}, hh.objs.size ≤ a → a ≠ h.objs.size := fun ha e => Nat.lt_irrefl _ (Nat.lt_of_lt_of_le (show h.objs.size < hh.objs.size from hloc) (e ▸ ha))
  have S2 := (S.moreX (X' := [111]) (fun _ hm => nomatch hm)).turn (P := fun _ => True) kx (fun a ha => by cases List.mem_singleton.mp ha; exact .inr (.inl rfl)) (fun a ha => .inr ha) (z161 (Nat.le_refl _)) (fun x c e => z161 (by
    have e : ([(("mycmp" : Str), h.objs.size + 1)] : List (Str × Addr)).lookup x = some c := e
    have := mem_of_lookup e
    cases List.mem_singleton.mp this
    exact Nat.le_succ _)) trivial Dep.true (fun _ hm => nomatch hm)
  refine wpAny_mono (hs_put (Q := fun _ h'' => Heap.SameBut h.objs.size h' h'' ∧ St mg mb [111] h [h.objs.size, h.objs.size + 1] (callEnvC (fdat 19 .none .none (.str "cpy313.functools" 318) 115) h.objs.size 116) [("K", .ref K), ("mycmp", .ref 147)] (fun _ => True) h'') S2 rfl (.head _) (.miss (by decide) .nil) (fun h'' sb S3 => ⟨sb, S3⟩) ⟨h', g, d, tk', os⟩ rfl) (fun _ s2 z => ?_) (fun _ _ f => f.elim)
  obtain ⟨sm, sb, S3⟩ := z
  refine wpAny_point (wpAny_pure ⟨⟨sm.1, sm.2.1, sm.2.2⟩, ?_⟩)
  show hw (model prog w) A' (execs [.Return (some (.Name "K" ⟨181, 11, 181, 12⟩)) ⟨181, 4, 181, 12⟩] _) _ _
  refine hw_cons (hw_Return (hs_var S3 (.head _) ?_))
  have kk := KX.same sb (List.Mem.head ([] : List Addr))
  refine q K k c s2.heap S3.base (KA.keep kk fun a ha hm => nl (hnew a ha) (List.mem_singleton.mp hm)) ?_ (fun a ha => ?_) ((sb.2 111 (Nat.ne_of_lt (Nat.lt_of_lt_of_le (by decide) G.sz))).trans h111)
  · rcases S3.fm.var (("mycmp" : Str), .ref 147) (.tail _ (.head _)) with ⟨a, _⟩ | ⟨_, c', e, ic⟩
    · cases (show (some NameKind.cell : Option NameKind) = some .local from a)
    · cases (show (some (h.objs.size + 1) : Option Addr) = some c' from e)
      rw [hcl]; exact ic
  · rcases List.mem_cons.mp ha with rfl | ha
    · exact Nat.le_trans (Nat.le_of_lt hloc) (hnew _ (.head _))
    · rcases List.mem_cons.mp ha with rfl | ha
      · rw [hcl]; exact Nat.le_succ _
      · exact Nat.le_trans (Nat.le_of_lt hloc) (hnew _ (.tail _ ha))
end

-- E2
section
open PySem PySem.W PyProof.Rows PySem.Calls
open PySem.W.X (Mem tableObj hasCls away)
theorem slot_mds : Slot "member_descriptor" "__set__" "member_descriptor.__set__" := .of (owner := "member_descriptor") (n := "__set__") (by rw [typeLookup_type, builtinLookup_eq_fast]; kernel_rfl) (by decide +kernel) (by decide +kernel) (by decide +kernel)
  (by first | exact .inl (by decide +kernel) | exact .inr (by decide +kernel)) (by rw [isSubtype_type]; kernel_rfl)
theorem e_mds : entryFor table "member_descriptor.__set__" = some PySem.Builtin.«member_descriptor.__set__» := entryFor_of_tree (by kernel_rfl)
theorem args_mds (a b c : Value) : argsOk "member_descriptor.__set__" ⟨[a, b, c], []⟩ := by unfold argsOk; kernel_rfl
theorem e_slotset : entryFor table "proto.slot#set" = some PySem.Builtin.«proto.slot#set» := entryFor_of_tree (by kernel_rfl)
section
variable {prog : Program} {w : World} {A : Around} {E : Value → Shared → Prop} {X : List Addr} {h₀ h : Heap} {g : Array GenState} {d : Drawn} {tk : Nat} {os : OsState} {news : List (Addr × Obj)}
set_option maxHeartbeats 2000000 in
theorem setobj {C ns bT r sl sa f2 f3 f4 f5 f6 f7 md xx dd : Addr} {t tq t8 tl tm : Tok} {line : Nat} {Q : Unit → Shared → Prop} (hA : A.handled = none) (hu : A.units + 100 < cLine) {o2 : Obj}
    (hC : h.get? C = some (kCls2 C ns bT t tq)) (hn : h.get? ns = some o2) (N : NsL o2 (kNs2 t8 tl line sl sa f2 f3 f4 f5 f6 f7 md))
    (hmd : h.get? md = some (kMd C tm)) (hx : h.get? xx = some ⟨.ref C, some dd, .plain, #[]⟩) (hdd : h.get? dd = some ⟨.type "dict", none, .dict #[] 0, #[]⟩)
    (hq : ∀ h', Led [xx] h h' [(xx, ⟨.ref C, some dd, .plain, #[some (.ref r)]⟩)] → Q () ⟨h', g, d, tk + 1, os⟩) :
    wpAny (model prog w) A (setAttr (.ref xx) "obj" (.ref r)) Q E ⟨h, g, d, tk, os⟩ := by
  have D := Led.start1 hx
  obtain ⟨es2, n3, rfl, pr2⟩ := id N
  obtain ⟨Ji, Yt, rfl⟩ := kNs2_es pr2
  unfold setAttr
  repeat walk_at "ck"
  dsimp only
  rw [show (toString "object" ++ toString "." ++ toString (Str.ofString "__setattr__").toString) = "object.__setattr__" from by decide +kernel]
  refine wpAny_call (codeAny_call_builtin_at (Code.quiet_builtin _ (by decide +kernel)) F.entry_object_setattr ?_)
  unfold checkBuiltinCall
  repeat walk_at "ck"
  dsimp only
  rw [show (toString "member_descriptor" ++ toString "." ++ toString (Str.ofString "__set__").toString) = "member_descriptor.__set__" from by decide +kernel]
  refine wpAny_call (codeAny_call_builtin slot_mds.plain e_mds (slot_mds.check _ _ _ _ _ _ _ _ ⟨_, hmd, rfl⟩ (args_mds _ _ _) ?_))
  unfold PySem.Builtin.«member_descriptor.__set__»
  repeat walk_at "ck"
  refine c_negB (by simp) ?_
  repeat walk_at "ck"
  refine ⟨Code.quiet_builtin _ (by decide +kernel), codeAny_builtin e_slotset ?_⟩
  unfold PySem.Builtin.«proto.slot#set»
  repeat walk_at "ck"
  rename Led _ _ _ _ => D'
  exact hq _ (D'.conv (by kernel_rfl!))
end
end

-- E3
section
open PySem PySem.W PyProof.Rows PySem.Calls
open PySem.W.X (Mem tableObj hasCls away)
section
variable {prog : Program} {w : World} {A : Around} {mg mb : Str → Option Value} {h : Heap} {f : Addr}
/-- a def with free names, none of them its own cell -/
theorem hw_defC {fd : FuncData} {o : Obj} {body : List Stmt} {args : List Value} {kw : List (Str × Value)} {binds : List (Str × Value)} {I : Heap → Prop} {Q : Value → Heap → Prop} {n : Nat} {x0 : Str} {c0 : Addr} {v0 : Value}
    (OK : Ok A (n + 1)) (G : Gd mg mb h) (ho : h.get? f = some o) (hd : o.data = .func fd) (hcd : h.CodeRec fd.code fd.qualname) (hbody : fd.body = .stmts body)
    (hbind : ∀ s : Shared, s.heap = h → BindsTo s fd ⟨args, kw⟩ binds) (hcell : ∀ x ∈ fd.scope.names, x.2 ≠ .cell) (hloc : ∀ x ∈ binds, fd.scope.names.lookup x.1 = some .local) (hnd : (binds.map (·.1)).Nodup)
    (i : I h) (hi : DepIn h I) (hg : fd.globals = 3) (hb : fd.builtins = 0) (hclo : fd.closure = [(x0, c0)]) (hcel : h.IsCell c0 (some v0)) (hfree : fd.scope.names.lookup x0 = some .free)
    (x : ∀ A' h₁, Ok A' n → St mg mb [] h [h.objs.size] (callEnv fd h.objs.size f) ((x0, v0) :: binds) I h₁ →
      hw (model prog w) A' (execs body (callEnv fd h.objs.size f)) (fun fl h' => Q (match fl with | .ret v => v | _ => .none) h') h₁)
    (hco : fd.scope.isCoroutine = false := by rfl) (hgen : fd.scope.isGenerator = false := by rfl) (hk : fd.scope.kind = .function := by rfl) : hw (model prog w) A (call (.ref f) args kw) Q h := by
  refine hw_call fun s e => ?_
  subst e
  refine codeAny_call_def (by have := OK.dp; lia) ho hd G.lim hcd hbody (hbind s rfl) hcell hloc (fun h₀ hns k => ?_) hco hgen hk
  have sz : s.heap.objs.size < h₀.objs.size := hns.lt
  have kx : KX [] s.heap h₀ := KX.of_all (Nat.le_of_lt sz) k
  obtain ⟨D, hD, hlt⟩ := hi
  have cl0 : c0 < s.heap.objs.size := let ⟨_, ho, _⟩ := hcel; Heap.lt_size ho
  have look : ∀ x c, (callEnv fd s.heap.objs.size f).cells.lookup x = some c → x = x0 ∧ c = c0 := by
    intro x c hx
    simp only [callEnv, newEnv, hclo, List.lookup_cons, List.lookup_nil] at hx
    by_cases e : x == x0
    · rw [e] at hx; cases hx; exact ⟨eq_of_beq e, rfl⟩
    · rw [Bool.not_eq_true] at e; rw [e] at hx; cases hx
  have S : St mg mb [] s.heap [s.heap.objs.size] (callEnv fd s.heap.objs.size f) ((x0, v0) :: binds) I h₀ :=
    { g := G.keep kx (fun _ hm => nomatch hm), base := kx
      fm := ⟨⟨_, hns⟩, fun x c hx => by obtain ⟨rfl, rfl⟩ := look x c hx; exact ⟨_, cell_keep hcel kx (fun hm => nomatch hm)⟩, fun p hp => by
        rcases List.mem_cons.mp hp with rfl | hp
        · exact .inr ⟨.inr hfree, c0, by simp only [callEnv, newEnv, hclo, List.lookup_cons, beq_self_eq_true], cell_keep hcel kx (fun hm => nomatch hm)⟩
        · exact .inl ⟨hloc p hp, _, hns, by
            clear hbind hloc x look
            have : ∀ (l : List (Str × Value)), (l.map (·.1)).Nodup → p ∈ l → l.lookup p.1 = some p.2 := by
              intro l
              induction l with
              | nil => intro _ hm; cases hm
              | cons q r ih =>
                obtain ⟨k, u⟩ := q
                intro hn hm
                rw [List.map_cons, List.nodup_cons] at hn
                rcases List.mem_cons.mp hm with rfl | hm
                · rw [List.lookup_cons, beq_self_eq_true]
                · have : p.1 ≠ k := fun e => hn.1 (by show k ∈ _; rw [← e]; exact List.mem_map_of_mem (f := Prod.fst) hm)
                  rw [List.lookup_cons, beq_eq_false_iff_ne.mpr this]
                  exact ih hn.2 hm
            exact this _ (by rw [List.map_reverse]; exact List.pairwise_reverse.mpr (hnd.imp Ne.symm)) (List.mem_reverse.mpr hp)⟩⟩
      imm := hD.call kx i
      es := ⟨hk, fun x c hx => by obtain ⟨rfl, rfl⟩ := look x c hx; exact Nat.ne_of_lt cl0, fun x y c hx hy => by rw [(look x c hx).1, (look y c hy).1]⟩
      gl := hg, bl := hb
      hi := fun a ha => by cases List.mem_singleton.mp ha; exact .inl G.sz
      wb := fun a ha => by cases List.mem_singleton.mp ha; exact .inl (Nat.le_refl _)
      wlt := fun a ha => by cases List.mem_singleton.mp ha; exact sz
      dep := ⟨D, hD, fun a ha => Nat.lt_trans (hlt a ha) sz, fun a ha hm => by cases List.mem_singleton.mp ha; exact Nat.lt_irrefl _ (hlt _ hm)⟩ }
  have y := x (A.deeper (callEnv fd s.heap.objs.size f)) h₀ OK.deeper S { s with heap := h₀, toks := s.toks + binds.length } rfl
  refine wpAny_mono y (fun fl s' z => ?_) fun _ _ z => z.elim
  cases fl <;> exact ⟨z.1, z.2⟩
end
end

-- E4
section
open PySem PySem.W PyProof.Rows PySem.Calls
open PySem.W.X (Mem tableObj hasCls away)
section
variable {prog : Program} {w : World} {A : Around} {E : Value → Shared → Prop} {X : List Addr} {h₀ h : Heap} {g : Array GenState} {d : Drawn} {tk : Nat} {os : OsState} {news : List (Addr × Obj)}
section
theorem getobjT {C ns bT r sl sa f2 f3 f4 f5 f6 f7 md xx dd : Addr} {t tq t8 tl tm : Tok} {line n2 : Nat} {J : Nat → Int} {Y : Nat → Tok} {Q : Value → Shared → Prop} (hA : A.handled = none) (hu : A.units + 100 < cLine)
    (hC : h.get? C = some (kCls2 C ns bT t tq)) (hn : h.get? ns = some (dictOf (kEs2 t8 tl line sl sa f2 f3 f4 f5 f6 f7 md J Y) n2))
    (hmd : h.get? md = some (kMd C tm)) (hxx : h.get? xx = some ⟨.ref C, some dd, .plain, #[some (.ref r)]⟩) (hdd : h.get? dd = some ⟨.type "dict", none, .dict #[] 0, #[]⟩) (hx : Q (.ref r) ⟨h, g, d, tk + 1, os⟩) :
    wpAny (model prog w) A (getAttr (.ref xx) "obj" true) Q E ⟨h, g, d, tk, os⟩ := by
  unfold kCls2 at hC
  unfold dictOf kEs2 at hn
  unfold kMd at hmd
  refine wpAny_gr ?_
  unfold getAttr
  repeat walk_at "ck"
  x_run
end
end
end

-- E5
section
open PySem PySem.W PyProof.Rows PySem.Calls
variable {prog : Program} {w : World} {A : Around} {mg mb : Str → Option Value} {h : Heap}

/-! ## what K's things do -/
noncomputable def Inst (C : Addr) (h : Heap) (x r : Addr) : Prop := ∃ dd, h.get? x = some ⟨.ref C, some dd, .plain, #[some (.ref r)]⟩ ∧ h.get? dd = some ⟨.type "dict", none, .dict #[] 0, #[]⟩
theorem hw_Attr {n attr : Str} {np pos : Pos} {env : Env} {Q : Value → Heap → Prop} (x : hw (model prog w) A (eval (.Name n np) env) (fun o h₁ => hw (model prog w) A (getAttr o attr true) Q h₁) h) : hw (model prog w) A (eval (.Attribute (.Name n np) attr pos) env) Q h := by
  rw [arm_eval_Attribute]
  have e1 : attributeBase (.Name n np) attr env (eval (.Name n np) env) = eval (.Name n np) env := rfl
  rw [e1]
  refine hw_bind (hw_mono x fun o h₁ y => hw_bind (hw_standAt (hw_bind (hw_holding (hw_mono y fun r h₂ z => ?_)))))
  have e2 : letTemporaryGo (.Name n np) o r = pure () := rfl
  rw [e2]
  exact hw_bind (hw_pure (hw_pure z))
theorem hw_getobj {k : KIx} {C x r : Addr} {pm : Value} {Q : Value → Heap → Prop} {n : Nat} (OK : Ok A (n + 13)) (K : KAt k C pm h) (I : Inst C h x r) (q : Q (.ref r) h) : hw (model prog w) A (getAttr (.ref x) "obj" true) Q h := by
  intro s e
  obtain ⟨hh, g, d, tk, os⟩ := s
  cases e
  obtain ⟨dd, hx, hdd⟩ := I
  obtain ⟨⟨bT, t, tq, a1⟩, ⟨o2, t8, tl, line, sl, sa, a2, a3⟩, ⟨tm, a4⟩, -⟩ := K
  obtain ⟨es2, n3, rfl, pr2⟩ := id a3
  obtain ⟨Ji, Yt, rfl⟩ := kNs2_es pr2
  exact getobjT OK.hd (by have := OK.un; lia) a1 a2 a4 hx hdd ⟨⟨rfl, rfl, rfl⟩, q⟩
theorem FnAt.rec_ {f cf : Addr} {pm : Value} {i : Nat} {clos : List (Str × Addr)} (x : FnAt h f cf pm i clos) : ∃ doc ctv, h.get? f = some (kFn "cmp_to_key.<locals>.K" pm i clos doc cf ctv) ∧ h.CodeRec (.ref cf) (Str.ofString "cmp_to_key.<locals>.K" ++ "." ++ fname (kDef i)) := by
  obtain ⟨doc, ctv, co, a, b, vs, t, c, e⟩ := x
  exact ⟨doc, ctv, a, cf, co, vs, t, rfl, b, c, e⟩
theorem Dep.inst (C x r dd : Addr) : Dep [x, dd] (fun h => h.get? x = some ⟨.ref C, some dd, .plain, #[some (.ref r)]⟩ ∧ h.get? dd = some ⟨.type "dict", none, .dict #[] 0, #[]⟩) := fun _ hu _ _ k y => ⟨k.keep _ _ (fun hm => hu _ hm (.head _)) y.1, k.keep _ _ (fun hm => hu _ hm (.tail _ (.head _))) y.2⟩
theorem Inst.keep {C x r : Addr} {h' : Heap} (I : Inst C h x r) (k : KX [] h h') : Inst C h' x r := let ⟨dd, a, b⟩ := I; ⟨dd, k.keep _ _ (fun hm => nomatch hm) a, k.keep _ _ (fun hm => nomatch hm) b⟩
theorem DepIn.inst {C x r : Addr} (I : Inst C h x r) : ∃ P : Heap → Prop, P h ∧ DepIn h P ∧ ∀ h', P h' → Inst C h' x r := by
  obtain ⟨dd, a, b⟩ := I
  exact ⟨_, ⟨a, b⟩, ⟨_, Dep.inst C x r dd, fun c hc => by
    rcases List.mem_cons.mp hc with rfl | hc
    · exact Heap.lt_size a
    · cases List.mem_singleton.mp hc; exact Heap.lt_size b⟩, fun h' y => ⟨dd, y.1, y.2⟩⟩
theorem KAt.lt {k : KIx} {C : Addr} {pm : Value} (K : KAt k C pm h) : ∀ a ∈ C :: k.all, a < h.objs.size :=
  alc (K.1.elim fun _ y => y.elim fun _ y => y.elim fun _ y => Heap.lt_size y) (alc (K.2.1.elim fun _ y => y.elim fun _ y => y.elim fun _ y => y.elim fun _ y => y.elim fun _ y => y.elim fun _ y => Heap.lt_size y.1)
    (alc (K.2.2.1.elim fun _ y => Heap.lt_size y) (alc K.2.2.2.1.lt.1 (alc K.2.2.2.1.lt.2 (alc K.2.2.2.2.1.lt.1 (alc K.2.2.2.2.1.lt.2 (alc K.2.2.2.2.2.1.lt.1 (alc K.2.2.2.2.2.1.lt.2 (alc K.2.2.2.2.2.2.1.lt.1 (alc K.2.2.2.2.2.2.1.lt.2 (alc K.2.2.2.2.2.2.2.1.lt.1 (alc K.2.2.2.2.2.2.2.1.lt.2 (alc K.2.2.2.2.2.2.2.2.lt.1 (alc K.2.2.2.2.2.2.2.2.lt.2 (fun _ hm => nomatch hm)))))))))))))))
theorem DepIn.kat {k : KIx} {C : Addr} {pm : Value} (K : KAt k C pm h) : DepIn h (KAt k C pm) := ⟨_, Dep.kat k C pm, K.lt⟩
theorem kCmp3 {k : KIx} {C x y r r' : Addr} {pm : Value} {ns ms : List Int} {Q : Value → Heap → Prop} {n : Nat} (OK : Ok A (n + 14)) (G : Gd mg mb h) (K : KAt k C pm h) (hcl : h.IsCell k.cl (some (.ref 147)))
    (I : Inst C h x r) (J : Inst C h y r') (ho : IL h r ns) (ht : IL h r' ms) (hn : ns.length ≤ 1000) (hm : ms.length ≤ 1000) (q : ∀ h', KX [] h h' → Q (.bool (decide (orderOf ns ms < 0))) h') :
    hw (model prog w) A (call (.ref k.f3) [.ref x, .ref y]) Q h := by
  obtain ⟨doc, ctv, ha, hr⟩ := FnAt.rec_ (K.2.2.2.2.1)
  obtain ⟨P, pI, dI, eI⟩ := DepIn.inst I
  obtain ⟨P', pJ, dJ, eJ⟩ := DepIn.inst J
  refine hw_defC (binds := [("self", .ref x), ("other", .ref y)]) (x0 := "mycmp") (I := fun h => KAt k C pm h ∧ P h ∧ P' h ∧ IL h r ns ∧ IL h r' ms) OK G ha rfl hr rfl (fun s e => BindsTo.of_eq rfl)
    (by show ∀ x ∈ (fscope (kDef 3)).names, x.2 ≠ .cell; decide) (fun p hp => by rcases List.mem_cons.mp hp with rfl | hp; rfl; cases List.mem_singleton.mp hp; rfl) (by show (["self", "other"] : List Str).Nodup; decide)
    ⟨K, pI, pJ, ho, ht⟩ ((DepIn.kat K).and (dI.and (dJ.and ((DepIn.il ho).and (DepIn.il ht))))) rfl rfl rfl hcl rfl ?_ rfl rfl rfl
  intro A' h₁ OK' S
  show hw _ _ (execs (fbody (kDef 3)) _) _ _
  refine hw_cons ?_
  repeat' walk_at "e"
  refine hw_Attr ?_
  repeat' walk_at "e"
  refine hw_getobj (n := n) OK' S.imm.1 (eI _ S.imm.2.1) ?_
  repeat' walk_at "e"
  refine hw_Attr ?_
  repeat' walk_at "e"
  refine hw_getobj (n := n) OK' S.imm.1 (eJ _ S.imm.2.2.1) ?_
  repeat' walk_at "e"
  refine ⟨keep_tab S.g 16 rfl, ?_⟩
  refine lawOrder (n := n) (OK'.mono (by lia)) S.g S.imm.2.2.2.1 S.imm.2.2.2.2 hn hm fun h' u kx => ?_
  have S := S.call kx
  repeat' walk_at "e"
  exact q _ S.base
theorem kCmp4 {k : KIx} {C x y r r' : Addr} {pm : Value} {ns ms : List Int} {Q : Value → Heap → Prop} {n : Nat} (OK : Ok A (n + 14)) (G : Gd mg mb h) (K : KAt k C pm h) (hcl : h.IsCell k.cl (some (.ref 147)))
    (I : Inst C h x r) (J : Inst C h y r') (ho : IL h r ns) (ht : IL h r' ms) (hn : ns.length ≤ 1000) (hm : ms.length ≤ 1000) (q : ∀ h', KX [] h h' → Q (.bool (decide (0 < orderOf ns ms))) h') :
    hw (model prog w) A (call (.ref k.f4) [.ref x, .ref y]) Q h := by
  obtain ⟨doc, ctv, ha, hr⟩ := FnAt.rec_ (K.2.2.2.2.2.1)
  obtain ⟨P, pI, dI, eI⟩ := DepIn.inst I
  obtain ⟨P', pJ, dJ, eJ⟩ := DepIn.inst J
  refine hw_defC (binds := [("self", .ref x), ("other", .ref y)]) (x0 := "mycmp") (I := fun h => KAt k C pm h ∧ P h ∧ P' h ∧ IL h r ns ∧ IL h r' ms) OK G ha rfl hr rfl (fun s e => BindsTo.of_eq rfl)
    (by show ∀ x ∈ (fscope (kDef 4)).names, x.2 ≠ .cell; decide) (fun p hp => by rcases List.mem_cons.mp hp with rfl | hp; rfl; cases List.mem_singleton.mp hp; rfl) (by show (["self", "other"] : List Str).Nodup; decide)
    ⟨K, pI, pJ, ho, ht⟩ ((DepIn.kat K).and (dI.and (dJ.and ((DepIn.il ho).and (DepIn.il ht))))) rfl rfl rfl hcl rfl ?_ rfl rfl rfl
  intro A' h₁ OK' S
  show hw _ _ (execs (fbody (kDef 4)) _) _ _
  refine hw_cons ?_
  repeat' walk_at "e"
  refine hw_Attr ?_
  repeat' walk_at "e"
  refine hw_getobj (n := n) OK' S.imm.1 (eI _ S.imm.2.1) ?_
  repeat' walk_at "e"
  refine hw_Attr ?_
  repeat' walk_at "e"
  refine hw_getobj (n := n) OK' S.imm.1 (eJ _ S.imm.2.2.1) ?_
  repeat' walk_at "e"
  refine ⟨keep_tab S.g 16 rfl, ?_⟩
  refine lawOrder (n := n) (OK'.mono (by lia)) S.g S.imm.2.2.2.1 S.imm.2.2.2.2 hn hm fun h' u kx => ?_
  have S := S.call kx
  repeat' walk_at "e"
  exact q _ S.base
theorem kCmp5 {k : KIx} {C x y r r' : Addr} {pm : Value} {ns ms : List Int} {Q : Value → Heap → Prop} {n : Nat} (OK : Ok A (n + 14)) (G : Gd mg mb h) (K : KAt k C pm h) (hcl : h.IsCell k.cl (some (.ref 147)))
    (I : Inst C h x r) (J : Inst C h y r') (ho : IL h r ns) (ht : IL h r' ms) (hn : ns.length ≤ 1000) (hm : ms.length ≤ 1000) (q : ∀ h', KX [] h h' → Q (.bool (orderOf ns ms == 0)) h') :
    hw (model prog w) A (call (.ref k.f5) [.ref x, .ref y]) Q h := by
  obtain ⟨doc, ctv, ha, hr⟩ := FnAt.rec_ (K.2.2.2.2.2.2.1)
  obtain ⟨P, pI, dI, eI⟩ := DepIn.inst I
  obtain ⟨P', pJ, dJ, eJ⟩ := DepIn.inst J
  refine hw_defC (binds := [("self", .ref x), ("other", .ref y)]) (x0 := "mycmp") (I := fun h => KAt k C pm h ∧ P h ∧ P' h ∧ IL h r ns ∧ IL h r' ms) OK G ha rfl hr rfl (fun s e => BindsTo.of_eq rfl)
    (by show ∀ x ∈ (fscope (kDef 5)).names, x.2 ≠ .cell; decide) (fun p hp => by rcases List.mem_cons.mp hp with rfl | hp; rfl; cases List.mem_singleton.mp hp; rfl) (by show (["self", "other"] : List Str).Nodup; decide)
    ⟨K, pI, pJ, ho, ht⟩ ((DepIn.kat K).and (dI.and (dJ.and ((DepIn.il ho).and (DepIn.il ht))))) rfl rfl rfl hcl rfl ?_ rfl rfl rfl
  intro A' h₁ OK' S
  show hw _ _ (execs (fbody (kDef 5)) _) _ _
  refine hw_cons ?_
  repeat' walk_at "e"
  refine hw_Attr ?_
  repeat' walk_at "e"
  refine hw_getobj (n := n) OK' S.imm.1 (eI _ S.imm.2.1) ?_
  repeat' walk_at "e"
  refine hw_Attr ?_
  repeat' walk_at "e"
  refine hw_getobj (n := n) OK' S.imm.1 (eJ _ S.imm.2.2.1) ?_
  repeat' walk_at "e"
  refine ⟨keep_tab S.g 16 rfl, ?_⟩
  refine lawOrder (n := n) (OK'.mono (by lia)) S.g S.imm.2.2.2.1 S.imm.2.2.2.2 hn hm fun h' u kx => ?_
  have S := S.call kx
  repeat' walk_at "e"
  exact q _ S.base
theorem kCmp6 {k : KIx} {C x y r r' : Addr} {pm : Value} {ns ms : List Int} {Q : Value → Heap → Prop} {n : Nat} (OK : Ok A (n + 14)) (G : Gd mg mb h) (K : KAt k C pm h) (hcl : h.IsCell k.cl (some (.ref 147)))
    (I : Inst C h x r) (J : Inst C h y r') (ho : IL h r ns) (ht : IL h r' ms) (hn : ns.length ≤ 1000) (hm : ms.length ≤ 1000) (q : ∀ h', KX [] h h' → Q (.bool (decide (orderOf ns ms ≤ 0))) h') :
    hw (model prog w) A (call (.ref k.f6) [.ref x, .ref y]) Q h := by
  obtain ⟨doc, ctv, ha, hr⟩ := FnAt.rec_ (K.2.2.2.2.2.2.2.1)
  obtain ⟨P, pI, dI, eI⟩ := DepIn.inst I
  obtain ⟨P', pJ, dJ, eJ⟩ := DepIn.inst J
  refine hw_defC (binds := [("self", .ref x), ("other", .ref y)]) (x0 := "mycmp") (I := fun h => KAt k C pm h ∧ P h ∧ P' h ∧ IL h r ns ∧ IL h r' ms) OK G ha rfl hr rfl (fun s e => BindsTo.of_eq rfl)
    (by show ∀ x ∈ (fscope (kDef 6)).names, x.2 ≠ .cell; decide) (fun p hp => by rcases List.mem_cons.mp hp with rfl | hp; rfl; cases List.mem_singleton.mp hp; rfl) (by show (["self", "other"] : List Str).Nodup; decide)
    ⟨K, pI, pJ, ho, ht⟩ ((DepIn.kat K).and (dI.and (dJ.and ((DepIn.il ho).and (DepIn.il ht))))) rfl rfl rfl hcl rfl ?_ rfl rfl rfl
  intro A' h₁ OK' S
  show hw _ _ (execs (fbody (kDef 6)) _) _ _
  refine hw_cons ?_
  repeat' walk_at "e"
  refine hw_Attr ?_
  repeat' walk_at "e"
  refine hw_getobj (n := n) OK' S.imm.1 (eI _ S.imm.2.1) ?_
  repeat' walk_at "e"
  refine hw_Attr ?_
  repeat' walk_at "e"
  refine hw_getobj (n := n) OK' S.imm.1 (eJ _ S.imm.2.2.1) ?_
  repeat' walk_at "e"
  refine ⟨keep_tab S.g 16 rfl, ?_⟩
  refine lawOrder (n := n) (OK'.mono (by lia)) S.g S.imm.2.2.2.1 S.imm.2.2.2.2 hn hm fun h' u kx => ?_
  have S := S.call kx
  repeat' walk_at "e"
  exact q _ S.base
theorem kCmp7 {k : KIx} {C x y r r' : Addr} {pm : Value} {ns ms : List Int} {Q : Value → Heap → Prop} {n : Nat} (OK : Ok A (n + 14)) (G : Gd mg mb h) (K : KAt k C pm h) (hcl : h.IsCell k.cl (some (.ref 147)))
    (I : Inst C h x r) (J : Inst C h y r') (ho : IL h r ns) (ht : IL h r' ms) (hn : ns.length ≤ 1000) (hm : ms.length ≤ 1000) (q : ∀ h', KX [] h h' → Q (.bool (decide (0 ≤ orderOf ns ms))) h') :
    hw (model prog w) A (call (.ref k.f7) [.ref x, .ref y]) Q h := by
  obtain ⟨doc, ctv, ha, hr⟩ := FnAt.rec_ (K.2.2.2.2.2.2.2.2)
  obtain ⟨P, pI, dI, eI⟩ := DepIn.inst I
  obtain ⟨P', pJ, dJ, eJ⟩ := DepIn.inst J
  refine hw_defC (binds := [("self", .ref x), ("other", .ref y)]) (x0 := "mycmp") (I := fun h => KAt k C pm h ∧ P h ∧ P' h ∧ IL h r ns ∧ IL h r' ms) OK G ha rfl hr rfl (fun s e => BindsTo.of_eq rfl)
    (by show ∀ x ∈ (fscope (kDef 7)).names, x.2 ≠ .cell; decide) (fun p hp => by rcases List.mem_cons.mp hp with rfl | hp; rfl; cases List.mem_singleton.mp hp; rfl) (by show (["self", "other"] : List Str).Nodup; decide)
    ⟨K, pI, pJ, ho, ht⟩ ((DepIn.kat K).and (dI.and (dJ.and ((DepIn.il ho).and (DepIn.il ht))))) rfl rfl rfl hcl rfl ?_ rfl rfl rfl
  intro A' h₁ OK' S
  show hw _ _ (execs (fbody (kDef 7)) _) _ _
  refine hw_cons ?_
  repeat' walk_at "e"
  refine hw_Attr ?_
  repeat' walk_at "e"
  refine hw_getobj (n := n) OK' S.imm.1 (eI _ S.imm.2.1) ?_
  repeat' walk_at "e"
  refine hw_Attr ?_
  repeat' walk_at "e"
  refine hw_getobj (n := n) OK' S.imm.1 (eJ _ S.imm.2.2.1) ?_
  repeat' walk_at "e"
  refine ⟨keep_tab S.g 16 rfl, ?_⟩
  refine lawOrder (n := n) (OK'.mono (by lia)) S.g S.imm.2.2.2.1 S.imm.2.2.2.2 hn hm fun h' u kx => ?_
  have S := S.call kx
  repeat' walk_at "e"
  exact q _ S.base
end

-- E6
section
open PySem PySem.W PyProof.Rows PySem.Calls
variable {prog : Program} {w : World} {A : Around} {mg mb : Str → Option Value} {h : Heap}

theorem hw_AssignAttr {o value : Expr} {attr : Str} {pos' pos : Pos} {env : Env} {Q : Flow → Heap → Prop}
    (x : hw (model prog w) A (eval value env) (fun v h₁ => hw (model prog w) A (eval o env) (fun ov h₂ => hw (model prog w) A (setAttr ov attr v) (fun _ => Q .next) h₂) h₁) h)
    (hs : swapsWith value (some (.Attribute o attr pos')) pos.line env = pure false := by rfl) : hw (model prog w) A (exec (.Assign [.Attribute o attr pos'] value pos) env) Q h := fun s e =>
  plainObj_wpAny_Assign_Attribute (wpAny_mono (x s e) (fun v s₁ y => wpAny_mono (y.2 s₁ rfl) (fun ov s₂ z => wpAny_mono (z.2 s₂ rfl) (fun _ s₃ u => ⟨(y.1.trans z.1).trans u.1, u.2⟩) fun _ _ f => f) fun _ _ f => f) fun _ _ f => f) hs
theorem hw_setobj {k : KIx} {C x r dd : Addr} {pm : Value} {Q : Unit → Heap → Prop} {n : Nat} (OK : Ok A (n + 13)) (K : KAt k C pm h) (hx : h.get? x = some ⟨.ref C, some dd, .plain, #[]⟩) (hdd : h.get? dd = some ⟨.type "dict", none, .dict #[] 0, #[]⟩)
    (q : ∀ h', KX [x] h h' → h'.get? x = some ⟨.ref C, some dd, .plain, #[some (.ref r)]⟩ → Q () h') : hw (model prog w) A (setAttr (.ref x) "obj" (.ref r)) Q h := by
  intro s e
  obtain ⟨hh, g, d, tk, os⟩ := s
  cases e
  obtain ⟨⟨bT, t, tq, a1⟩, ⟨o2, t8, tl, line, sl, sa, a2, a3⟩, ⟨tm, a4⟩, -⟩ := K
  exact setobj OK.hd (by have := OK.un; lia) a1 a2 a3 a4 hx hdd fun h' D => ⟨⟨rfl, rfl, rfl⟩, q h' D.kx (D.nw _ (.head _)).1⟩
end

-- E7
section
open PySem PySem.W PyProof.Rows PySem.Calls
open PySem.W.X (Mem tableObj hasCls away)

section
variable {prog : Program} {w : World} {h : Heap}
theorem k_made {C ns bT : Addr} {t tq : Tok} (hC : h.get? C = some (kCls2 C ns bT t tq)) : Looks (model prog w) h (Bind.madeBy (.ref C)) (some "object.__new__") := by
  intro A Q E s k q
  obtain ⟨hh, g, d, tk, os⟩ := s
  have hC' : hh.get? C = _ := k _ _ hC
  have D := Led.start1 hC'
  unfold Bind.madeBy
  repeat walk_at "ck"
  exact q
theorem k_base {C ns bT : Addr} {t tq : Tok} (hC : h.get? C = some (kCls2 C ns bT t tq)) : Looks (model prog w) h (Bind.staticBase (.ref C)) (.ref C) := by
  intro A Q E s k q
  obtain ⟨hh, g, d, tk, os⟩ := s
  have hC' : hh.get? C = _ := k _ _ hC
  have D := Led.start1 hC'
  unfold Bind.staticBase
  repeat walk_at "ck"
  exact q
theorem k_self {C ns bT : Addr} {t tq : Tok} (hC : h.get? C = some (kCls2 C ns bT t tq)) : Looks (model prog w) h (isSubtype (.ref C) (.ref C)) (true) := by
  intro A Q E s k q
  obtain ⟨hh, g, d, tk, os⟩ := s
  have hC' : hh.get? C = _ := k _ _ hC
  have D := Led.start1 hC'
  unfold isSubtype
  repeat walk_at "ck"
  have e : ([.ref C, .type "object"] : List Value).contains (.ref C) = true := by simp
  show Q (([.ref C, .type "object"] : List Value).contains (.ref C)) _
  rw [e]; exact q
theorem k_top {C ns bT : Addr} {t tq : Tok} (hC : h.get? C = some (kCls2 C ns bT t tq)) : Looks (model prog w) h (isSubtype (.ref C) (.type "object")) (true) := by
  intro A Q E s k q
  obtain ⟨hh, g, d, tk, os⟩ := s
  have hC' : hh.get? C = _ := k _ _ hC
  have D := Led.start1 hC'
  unfold isSubtype
  repeat walk_at "ck"
  have e : ([.ref C, .type "object"] : List Value).contains (.type "object") = true := by simp
  show Q (([.ref C, .type "object"] : List Value).contains (.type "object")) _
  rw [e]; exact q
theorem k_call {C ns bT : Addr} {t tq : Tok} (hC : h.get? C = some (kCls2 C ns bT t tq)) : Looks (model prog w) h (specialOf (.ref C) "__call__") (some (.builtin "type.__call__")) := by
  intro A Q E s k q
  obtain ⟨hh, g, d, tk, os⟩ := s
  have hC' : hh.get? C = _ := k _ _ hC
  have D := Led.start1 hC'
  unfold specialOf
  repeat walk_at "ck"
  rw [show (toString "type" ++ toString "." ++ toString (Str.ofString "__call__").toString) = "type.__call__" from by decide +kernel]; exact q
theorem k_typ {C ns bT : Addr} {t tq : Tok} (hC : h.get? C = some (kCls2 C ns bT t tq)) : Looks (model prog w) h (isInstance (.ref C) (.type "type")) (true) := by
  intro A Q E s k q
  obtain ⟨hh, g, d, tk, os⟩ := s
  have hC' : hh.get? C = _ := k _ _ hC
  have D := Led.start1 hC'
  unfold isInstance
  repeat walk_at "ck"
  have e : (Manifest.ty_type.mro.map Value.type).contains (.type "type") = true := by decide +kernel
  show Q ((Manifest.ty_type.mro.map Value.type).contains (.type "type")) _
  rw [e]; exact q
theorem k_makes {C ns bT : Addr} {t tq : Tok} (hC : h.get? C = some (kCls2 C ns bT t tq)) : Makes (model prog w) h C where
  obj := ⟨_, _, _, _, hC, rfl, rfl, rfl⟩
  made := k_made hC
  base := k_base hC
  self := k_self hC
  top := k_top hC
  call := k_call hC
  typ := k_typ hC
end
end

-- E8
section
open PySem PySem.W PyProof.Rows PySem.Calls
open PySem.W.X (Mem tableObj hasCls away)

section
variable {prog : Program} {w : World} {h : Heap}
theorem k_init {k : KIx} {C : Addr} {pm : Value} (K : KAt k C pm h) : Looks (model prog w) h (typeLookup (.ref C) "__init__") (some (.ref k.f2)) := by
  obtain ⟨⟨bT, t, tq, a1⟩, ⟨o2, t8, tl, line, sl, sa, a2, a3⟩, ⟨tm, a4⟩, -⟩ := K
  obtain ⟨es2, n3, rfl, pr2⟩ := id a3
  obtain ⟨Ji, Yt, rfl⟩ := kNs2_es pr2
  intro A Q E s kk q
  obtain ⟨hh, g, d, tk, os⟩ := s
  have hC' : hh.get? C = _ := kk _ _ a1
  have hN' : hh.get? k.ns = _ := kk _ _ a2
  have D := Led.start1 hC'
  unfold typeLookup
  repeat walk_at "ck"
  exact q
theorem k_bind {f : Addr} {o : Obj} (self : Value) (ho : h.get? f = some o) (hf : o.cls = .type "function") : Looks (model prog w) h (bindSpecial (.ref f) self) (.ref f, [self]) := by
  have e : Looks (model prog w) h (typeOf (.ref f)) (.type "function") := hf ▸ (Looks.ld ho).andThen .now
  exact e.andThen (Looks.of_pure (by kernel_rfl))
end
end

-- E11
section
open PySem PySem.W PyProof.Rows PySem.Calls
open PySem.W.X (Mem tableObj hasCls away)

section
variable {prog : Program} {w : World} {A : Around} {mg mb : Str → Option Value} {h : Heap}
theorem k_lt {k : KIx} {C : Addr} {pm : Value} (K : KAt k C pm h) : Looks (model prog w) h (typeLookup (.ref C) "__lt__") (some (.ref k.f3)) := by
  obtain ⟨⟨bT, t, tq, a1⟩, ⟨o2, t8, tl, line, sl, sa, a2, a3⟩, ⟨tm, a4⟩, -⟩ := K
  obtain ⟨es2, n3, rfl, pr2⟩ := id a3
  obtain ⟨Ji, Yt, rfl⟩ := kNs2_es pr2
  intro A Q E s kk q
  obtain ⟨hh, g, d, tk, os⟩ := s
  have hC' : hh.get? C = _ := kk _ _ a1
  have hN' : hh.get? k.ns = _ := kk _ _ a2
  have D := Led.start1 hC'
  unfold typeLookup
  repeat walk_at "ck"
  exact q
theorem k_gt {k : KIx} {C : Addr} {pm : Value} (K : KAt k C pm h) : Looks (model prog w) h (typeLookup (.ref C) "__gt__") (some (.ref k.f4)) := by
  obtain ⟨⟨bT, t, tq, a1⟩, ⟨o2, t8, tl, line, sl, sa, a2, a3⟩, ⟨tm, a4⟩, -⟩ := K
  obtain ⟨es2, n3, rfl, pr2⟩ := id a3
  obtain ⟨Ji, Yt, rfl⟩ := kNs2_es pr2
  intro A Q E s kk q
  obtain ⟨hh, g, d, tk, os⟩ := s
  have hC' : hh.get? C = _ := kk _ _ a1
  have hN' : hh.get? k.ns = _ := kk _ _ a2
  have D := Led.start1 hC'
  unfold typeLookup
  repeat walk_at "ck"
  exact q
theorem k_eq {k : KIx} {C : Addr} {pm : Value} (K : KAt k C pm h) : Looks (model prog w) h (typeLookup (.ref C) "__eq__") (some (.ref k.f5)) := by
  obtain ⟨⟨bT, t, tq, a1⟩, ⟨o2, t8, tl, line, sl, sa, a2, a3⟩, ⟨tm, a4⟩, -⟩ := K
  obtain ⟨es2, n3, rfl, pr2⟩ := id a3
  obtain ⟨Ji, Yt, rfl⟩ := kNs2_es pr2
  intro A Q E s kk q
  obtain ⟨hh, g, d, tk, os⟩ := s
  have hC' : hh.get? C = _ := kk _ _ a1
  have hN' : hh.get? k.ns = _ := kk _ _ a2
  have D := Led.start1 hC'
  unfold typeLookup
  repeat walk_at "ck"
  exact q
theorem k_le {k : KIx} {C : Addr} {pm : Value} (K : KAt k C pm h) : Looks (model prog w) h (typeLookup (.ref C) "__le__") (some (.ref k.f6)) := by
  obtain ⟨⟨bT, t, tq, a1⟩, ⟨o2, t8, tl, line, sl, sa, a2, a3⟩, ⟨tm, a4⟩, -⟩ := K
  obtain ⟨es2, n3, rfl, pr2⟩ := id a3
  obtain ⟨Ji, Yt, rfl⟩ := kNs2_es pr2
  intro A Q E s kk q
  obtain ⟨hh, g, d, tk, os⟩ := s
  have hC' : hh.get? C = _ := kk _ _ a1
  have hN' : hh.get? k.ns = _ := kk _ _ a2
  have D := Led.start1 hC'
  unfold typeLookup
  repeat walk_at "ck"
  exact q
theorem k_ge {k : KIx} {C : Addr} {pm : Value} (K : KAt k C pm h) : Looks (model prog w) h (typeLookup (.ref C) "__ge__") (some (.ref k.f7)) := by
  obtain ⟨⟨bT, t, tq, a1⟩, ⟨o2, t8, tl, line, sl, sa, a2, a3⟩, ⟨tm, a4⟩, -⟩ := K
  obtain ⟨es2, n3, rfl, pr2⟩ := id a3
  obtain ⟨Ji, Yt, rfl⟩ := kNs2_es pr2
  intro A Q E s kk q
  obtain ⟨hh, g, d, tk, os⟩ := s
  have hC' : hh.get? C = _ := kk _ _ a1
  have hN' : hh.get? k.ns = _ := kk _ _ a2
  have D := Led.start1 hC'
  unfold typeLookup
  repeat walk_at "ck"
  exact q
theorem k_ne {k : KIx} {C : Addr} {pm : Value} (K : KAt k C pm h) : Looks (model prog w) h (typeLookup (.ref C) "__ne__") (some (.builtin "object.__ne__")) := by
  obtain ⟨⟨bT, t, tq, a1⟩, ⟨o2, t8, tl, line, sl, sa, a2, a3⟩, ⟨tm, a4⟩, -⟩ := K
  obtain ⟨es2, n3, rfl, pr2⟩ := id a3
  obtain ⟨Ji, Yt, rfl⟩ := kNs2_es pr2
  intro A Q E s kk q
  obtain ⟨hh, g, d, tk, os⟩ := s
  have hC' : hh.get? C = _ := kk _ _ a1
  have hN' : hh.get? k.ns = _ := kk _ _ a2
  have D := Led.start1 hC'
  unfold typeLookup
  repeat walk_at "ck"
  exact q
end
end

-- E9
section
open PySem PySem.W PyProof.Rows PySem.Calls
section
variable {prog : Program} {w : World} {A : Around} {mg mb : Str → Option Value} {h : Heap} {f : Addr}
/-- a def without cells -/
theorem hc_def {fd : FuncData} {o : Obj} {body : List Stmt} {args : List Value} {kw : List (Str × Value)} {binds : List (Str × Value)} {I : Heap → Prop} {Q : Value → Heap → Prop} {n : Nat}
    (OK : Ok A (n + 1)) (G : Gd mg mb h) (ho : h.get? f = some o) (hd : o.data = .func fd) (hcd : h.CodeRec fd.code fd.qualname) (hbody : fd.body = .stmts body)
    (hbind : ∀ s : Shared, s.heap = h → BindsTo s fd ⟨args, kw⟩ binds) (hcell : ∀ x ∈ fd.scope.names, x.2 ≠ .cell) (hloc : ∀ x ∈ binds, fd.scope.names.lookup x.1 = some .local) (hnd : (binds.map (·.1)).Nodup)
    (i : I h) (hi : DepIn h I) (hg : fd.globals = 3) (hb : fd.builtins = 0) (hclo : fd.closure = [])
    (x : ∀ A' h₁, Ok A' n → St mg mb [] h [h.objs.size] (callEnv fd h.objs.size f) binds I h₁ →
      hw (model prog w) A' (execs body (callEnv fd h.objs.size f)) (fun fl h' => Q (match fl with | .ret v => v | _ => .none) h') h₁)
    (hco : fd.scope.isCoroutine = false := by rfl) (hgen : fd.scope.isGenerator = false := by rfl) (hk : fd.scope.kind = .function := by rfl) : hc (model prog w) A (.call (.ref f) ⟨args, kw⟩) (fun fl h' => match fl with | .ret v => Q v h' | _ => False) h := by
  intro s e
  subst e
  refine codeAny_call_def (by have := OK.dp; lia) ho hd G.lim hcd hbody (hbind s rfl) hcell hloc (fun h₀ hns k => ?_) hco hgen hk
  have sz : s.heap.objs.size < h₀.objs.size := hns.lt
  have kx : KX [] s.heap h₀ := KX.of_all (Nat.le_of_lt sz) k
  obtain ⟨D, hD, hlt⟩ := hi
  have S : St mg mb [] s.heap [s.heap.objs.size] (callEnv fd s.heap.objs.size f) binds I h₀ :=
    { g := G.keep kx (fun _ hm => nomatch hm), base := kx
      fm := ⟨⟨_, hns⟩, fun x c hx => (by simp only [callEnv, newEnv, hclo, List.lookup_nil] at hx; cases hx), fun p hp => .inl ⟨hloc p hp, _, hns, by
        clear hbind hloc x
        have : ∀ (l : List (Str × Value)), (l.map (·.1)).Nodup → p ∈ l → l.lookup p.1 = some p.2 := by
          intro l
          induction l with
          | nil => intro _ hm; cases hm
          | cons q r ih =>
            obtain ⟨k, u⟩ := q
            intro hn hm
            rw [List.map_cons, List.nodup_cons] at hn
            rcases List.mem_cons.mp hm with rfl | hm
            · rw [List.lookup_cons, beq_self_eq_true]
            · have : p.1 ≠ k := fun e => hn.1 (by show k ∈ _; rw [← e]; exact List.mem_map_of_mem (f := Prod.fst) hm)
              rw [List.lookup_cons, beq_eq_false_iff_ne.mpr this]
              exact ih hn.2 hm
        exact this _ (by rw [List.map_reverse]; exact List.pairwise_reverse.mpr (hnd.imp Ne.symm)) (List.mem_reverse.mpr hp)⟩⟩
      imm := hD.call kx i
      es := ⟨hk, fun x c hx => (by simp only [callEnv, newEnv, hclo, List.lookup_nil] at hx; cases hx), fun x y c hx => (by simp only [callEnv, newEnv, hclo, List.lookup_nil] at hx; cases hx)⟩
      gl := hg, bl := hb
      hi := fun a ha => by cases List.mem_singleton.mp ha; exact .inl G.sz
      wb := fun a ha => by cases List.mem_singleton.mp ha; exact .inl (Nat.le_refl _)
      wlt := fun a ha => by cases List.mem_singleton.mp ha; exact sz
      dep := ⟨D, hD, fun a ha => Nat.lt_trans (hlt a ha) sz, fun a ha hm => by cases List.mem_singleton.mp ha; exact Nat.lt_irrefl _ (hlt _ hm)⟩ }
  have y := x (A.deeper (callEnv fd s.heap.objs.size f)) h₀ OK.deeper S { s with heap := h₀, toks := s.toks + binds.length } rfl
  refine wpAny_mono y (fun fl s' z => ?_) fun _ _ z => z.elim
  cases fl <;> exact ⟨z.1, z.2⟩
end
variable {prog : Program} {w : World} {A : Around} {mg mb : Str → Option Value} {h : Heap}

theorem kInitC {k : KIx} {C x r dd : Addr} {pm : Value} {Q : Value → Heap → Prop} {n : Nat} (OK : Ok A (n + 14)) (G : Gd mg mb h) (K : KAt k C pm h) (hx : h.get? x = some ⟨.ref C, some dd, .plain, #[]⟩) (hdd : h.get? dd = some ⟨.type "dict", none, .dict #[] 0, #[]⟩) (hne : x ≠ dd)
    (q : ∀ h', KX [x] h h' → Inst C h' x r → Q .none h') : hc (model prog w) A (.call (.ref k.f2) ⟨[.ref x, .ref r], []⟩) (fun fl h' => match fl with | .ret v => Q v h' | _ => False) h := by
  obtain ⟨doc, ctv, ha, hr⟩ := FnAt.rec_ K.2.2.2.1
  refine hc_def (binds := [("self", .ref x), ("obj", .ref r)]) (I := fun h => KAt k C pm h ∧ h.get? x = some ⟨.ref C, some dd, .plain, #[]⟩ ∧ h.get? dd = some ⟨.type "dict", none, .dict #[] 0, #[]⟩) OK G ha rfl hr rfl (fun s e => BindsTo.of_eq rfl)
    (by show ∀ x ∈ (fscope (kDef 2)).names, x.2 ≠ .cell; decide) (fun p hp => by rcases List.mem_cons.mp hp with rfl | hp; rfl; cases List.mem_singleton.mp hp; rfl) (by show (["self", "obj"] : List Str).Nodup; decide)
    ⟨K, hx, hdd⟩ ((DepIn.kat K).and ⟨[x, dd], fun _ hu _ _ k y => ⟨k.keep _ _ (fun hm => hu _ hm (.head _)) y.1, k.keep _ _ (fun hm => hu _ hm (.tail _ (.head _))) y.2⟩, fun c hc => by
    rcases List.mem_cons.mp hc with rfl | hc
    · exact Heap.lt_size hx
    · cases List.mem_singleton.mp hc; exact Heap.lt_size hdd⟩) rfl rfl rfl ?_ rfl rfl rfl
  intro A' h₁ OK' S
  show hw _ _ (execs (fbody (kDef 2)) _) _ _
  refine hw_cons ?_
  refine hw_AssignAttr ?_
  repeat' walk_at "e"
  refine hw_setobj (n := n) OK' S.imm.1 S.imm.2.1 S.imm.2.2 fun h' kx hx' => ?_
  repeat' walk_at "e"
  refine q _ ((S.base.any).trans kx) ⟨dd, hx', kx.keep _ _ (fun hm => hne (List.mem_singleton.mp hm).symm) S.imm.2.2⟩
end

-- E10
section
open PySem PySem.W PyProof.Rows PySem.Calls
variable {prog : Program} {w : World} {A : Around} {mg mb : Str → Option Value} {h : Heap}
theorem tc_weight (C r : Addr) : (Code.builtin "type.__call__" ⟨.ref C :: [.ref r], []⟩).weight = 1 := by
  unfold Code.weight
  first | rfl | kernel_rfl!
theorem tc_units (C r : Addr) : (Code.builtin "type.__call__" ⟨.ref C :: [.ref r], []⟩).cUnits = 1 := by
  unfold Code.cUnits
  first | rfl | kernel_rfl!
theorem newK {k : KIx} {C r : Addr} {pm : Value} {Q : Value → Heap → Prop} {n : Nat} (OK : Ok A (n + 15)) (G : Gd mg mb h) (K : KAt k C pm h)
    (q : ∀ x h', KX [] h h' → h.objs.size ≤ x → Inst C h' x r → Q (.ref x) h') : hw (model prog w) A (call (.ref C) [.ref r]) Q h := by
  refine hw_call fun s e => ?_
  obtain ⟨hh, g, d, tk, os⟩ := s
  cases e
  have K' := K
  obtain ⟨⟨bT, t, tq, a1⟩, -, -, ⟨_, _, _, b2, _⟩, -⟩ := K'
  refine make_core (k_makes a1) (k_init K) (fun self => k_bind self b2 rfl) (.inl rfl) ?_
  have hx : ((hh.push emptyDict).push (instObj C hh.objs.size)).get? (hh.objs.size + 1) = some (instObj C hh.objs.size) := by heap_get
  have hd : ((hh.push emptyDict).push (instObj C hh.objs.size)).get? hh.objs.size = some emptyDict := by heap_get
  have kx : KX [] hh ((hh.push emptyDict).push (instObj C hh.objs.size)) := (KX.push [] hh _).trans (KX.push [] _ _)
  have OK' : Ok (A.under (.builtin "type.__call__" ⟨.ref C :: [.ref r], []⟩)) (n + 14) := ⟨OK.hd, by have := OK.dp; have e := tc_weight C r; show A.depth + (Code.builtin "type.__call__" ⟨.ref C :: [.ref r], []⟩).weight + (n + 14) < _; rw [e]; lia, by have := OK.un; have e := tc_units C r; show A.units + (Code.builtin "type.__call__" ⟨.ref C :: [.ref r], []⟩).cUnits + 8 * (n + 14) < _; rw [e]; lia⟩
  refine codeAny_mono (kInitC (n := n) OK' (G.keep kx (fun _ hm => nomatch hm)) (K.keep kx fun _ _ hm => nomatch hm) hx hd (Nat.succ_ne_self _) (Q := fun v h' => v = .none ∧ KX [hh.objs.size + 1] ((hh.push emptyDict).push (instObj C hh.objs.size)) h' ∧ Inst C h' (hh.objs.size + 1) r) (fun h' k I => ⟨rfl, k, I⟩) _ rfl) fun rr s' y => ?_
  rcases rr with e | (v | _ | _ | _) <;> first | exact y.elim | exact y.2.elim | skip
  obtain ⟨y1, rfl, y2, y3⟩ := y
  refine ⟨rfl, y1, ?_⟩
  refine q _ _ ?_ (Nat.le_succ _) y3
  exact ⟨Nat.le_trans kx.sz y2.sz, fun b o hb e => y2.keep b o (fun hm => by cases List.mem_singleton.mp hm; exact Nat.lt_irrefl _ (Nat.lt_of_lt_of_le (Heap.lt_size e) (Nat.le_succ _))) (kx.keep b o hb e)⟩
end

-- E12
section
open PySem PySem.W PyProof.Rows PySem.Calls
section
variable {prog : Program} {w : World} {A : Around} {mg mb : Str → Option Value} {h : Heap}
/-! ## comparisons of K's things -/
theorem inst_type {M : Model} {C x r : Addr} (I : Inst C h x r) : Looks M h (typeOf (.ref x)) (.ref C) := let ⟨dd, hx, _⟩ := I; (Looks.ld hx).andThen .now
theorem hw_ifBound {M : Model} {self T f : Value} {name : Str} {args : List Value} {Q : Option Value → Heap → Prop} (ht : Looks M h (typeOf self) T) (hs : Looks M h (typeLookup T name) (some f)) (hb : Looks M h (bindSpecial f self) (f, [self]))
    (q : hw M A (call f (self :: args)) (fun v h' => Q (some v) h') h) : hw M A (callSpecialIfBound? self name args) Q h := by
  intro s e
  subst e
  simp only [callSpecialIfBound?, bindSpecialIfBound?]
  refine wpAny_holding (wpAny_bind (wpAny_bind (wpAny_bind (ht.here (hs.here ?_)))))
  refine wpAny_bind (wpAny_askSetting (wpAny_ite ?_))
  have fin : wpAny M A (call f ([self] ++ args) >>= fun v => pure (some v)) (fun a s' => Sm s s' ∧ Q a s'.heap) (fun _ _ => False) s := wpAny_bind (wpAny_mono (q s rfl) (fun v s' h' => wpAny_pure h') fun _ _ h' => h')
  split
  · exact wpAny_bind (hb.here (wpAny_pure (by exact fin)))
  · exact wpAny_tryCatch (wpAny_bind (hb.here (wpAny_pure (by exact fin))))
theorem hw_tryCompare {M : Model} {self T f b : Value} {name : Str} {Q : Option Value → Heap → Prop} (ht : Looks M h (typeOf self) T) (hs : Looks M h (typeLookup T name) (some f)) (hb : Looks M h (bindSpecial f self) (f, [self]))
    (q : hw M A (call f [self, b]) (fun v h' => ∃ c, v = .bool c ∧ Q (some (.bool c)) h') h) : hw M A (tryCompare self name b) Q h := by
  unfold tryCompare
  refine hw_bind (hw_ifBound ht hs hb (hw_mono q ?_))
  rintro _ h' ⟨c, rfl, z⟩
  exact hw_pure z
theorem hw_rich {M : Model} {op : CmpOp} {x y : Addr} {T f : Value} {name : Str} {Q : Value → Heap → Prop} (hname : (cmpInfo op).2.1 = name) (hu : A.units < cLine) (ht : Looks M h (typeOf (.ref x)) T) (ht' : Looks M h (typeOf (.ref y)) T) (hT : (T != T) = false) (hs : Looks M h (typeLookup T name) (some f)) (hb : Looks M h (bindSpecial f (.ref x)) (f, [.ref x]))
    (q : hw M A (call f [.ref x, .ref y]) (fun v h' => ∃ c, v = .bool c ∧ Q (.bool c) h') h) : hw M A (richCompare op (.ref x) (.ref y)) Q h := by
  intro s e
  subst e
  subst hname
  unfold richCompare
  simp only [oneThing_ref]
  refine wpAny_holding (wpAny_bind (wpAny_cRoomFor hu ?_))
  refine wpAny_bind (ht.here (wpAny_bind (ht'.here ?_)))
  rw [hT]
  simp only [Bool.false_eq_true, if_false]
  refine wpAny_bind (wpAny_pure ?_)
  simp only [Bool.false_eq_true, if_false]
  refine wpAny_bind (wpAny_mono (hw_tryCompare (Q := fun r h' => ∃ c, r = some (.bool c) ∧ Q (.bool c) h') ht hs hb (hw_mono q ?_) s rfl) (fun r s' z => ?_) fun _ _ e => e.elim)
  · rintro _ h' ⟨c, rfl, z⟩
    exact ⟨c, rfl, c, rfl, z⟩
  · obtain ⟨sm, c, rfl, z⟩ := z
    exact wpAny_pure ⟨sm, z⟩
theorem ne_bind (self : Value) : bindSpecial (.builtin "object.__ne__") self = pure (.builtin "object.__ne__", [self]) :=
  (Slot.of (T := "object") (name := "__ne__") (owner := "object") (n := "__ne__") (by rw [typeLookup_type, builtinLookup_eq_fast]; kernel_rfl) (by decide +kernel) (by decide +kernel) (by decide +kernel)
    (.inl (by decide +kernel)) (by rw [isSubtype_type]; kernel_rfl)).bind self
theorem ne_plain : plainId "object.__ne__" = true := by decide +kernel
theorem objNe_body {x y : Addr} {T f : Value} {Q : Value → Heap → Prop} {s : Shared} (hu : A.units < cLine) (ht : Looks (model prog w) s.heap (typeOf (.ref x)) T) (hs : Looks (model prog w) s.heap (typeLookup T "__eq__") (some f)) (hb : Looks (model prog w) s.heap (bindSpecial f (.ref x)) (f, [.ref x]))
    (q : hw (model prog w) A (call f [.ref x, .ref y]) (fun v h' => ∃ c, v = .bool c ∧ Q (.bool (!c)) h') s.heap) : wpAny (model prog w) A (Builtin.«object.__ne__» ⟨[.ref x, .ref y], []⟩) (fun fin s' => ∃ v, fin = .done (.ret v) ∧ Sm s s' ∧ Q v s'.heap) (fun _ _ => False) s := by
  unfold Builtin.«object.__ne__»
  refine wpAny_bind (m := slotArgs "__ne__" 1 _) (wpAny_pure ?_)
  dsimp only
  refine wpAny_bind (wpAny_cRoomFor hu ?_)
  refine wpAny_bind (wpAny_mono (hw_ifBound (Q := fun r h' => ∃ c, r = some (.bool c) ∧ Q (.bool (!c)) h') ht hs hb (hw_mono q (fun v h' ⟨c, e, z⟩ => ⟨c, congrArg some e, z⟩)) s rfl) (fun r s' hr => ?_) fun _ _ e => e.elim)
  obtain ⟨sm, c, rfl, hq⟩ := hr
  refine wpAny_bind (m := truthy (.bool _)) (wpAny_truthy_bool ?_)
  exact wpAny_pure ⟨_, rfl, sm, hq⟩
theorem hw_objNe {x y : Addr} {T f : Value} {Q : Value → Heap → Prop} (hu : A.units + 1 < cLine) (ht : Looks (model prog w) h (typeOf (.ref x)) T) (hi : Looks (model prog w) h (isInstance (.ref x) (.type "object")) true) (hs : Looks (model prog w) h (typeLookup T "__eq__") (some f)) (hb : Looks (model prog w) h (bindSpecial f (.ref x)) (f, [.ref x]))
    (q : hw (model prog w) A.in1 (call f [.ref x, .ref y]) (fun v h' => ∃ c, v = .bool c ∧ Q (.bool (!c)) h') h) : hw (model prog w) A (call (.builtin "object.__ne__") [.ref x, .ref y]) Q h := by
  intro s e
  subst e
  refine wpAny_call (codeAny_call_builtin ne_plain F.cmpEntry_ne ?_)
  refine @check_slot (model prog w) _ _ _ "object.__ne__" "object" "__ne__" (.ref x) [.ref y] [] _ F.cmpKind_ne F.cmpSplit_ne hi (F.cmpArgs_ne _ _) ?_
  refine wpAny_mono (objNe_body (A := A.in1) hu ht hs hb q) (fun fin s' z => ?_) fun _ _ f => f
  obtain ⟨v, rfl, z⟩ := z
  exact z
/-- what K's six comparisons answer -/
noncomputable def askK (o : Int) (i : Nat) : Bool := if i = 0 then decide (o < 0) else if i = 1 then decide (0 < o) else if i = 2 then decide (o ≤ 0) else if i = 3 then decide (0 ≤ o) else if i = 4 then o == 0 else !(o == 0)
theorem askK_0 (o : Int) : askK o 0 = decide (o < 0) := by simp [askK]
theorem askK_1 (o : Int) : askK o 1 = decide (0 < o) := by simp [askK]
theorem askK_2 (o : Int) : askK o 2 = decide (o ≤ 0) := by simp [askK]
theorem askK_3 (o : Int) : askK o 3 = decide (0 ≤ o) := by simp [askK]
theorem askK_4 (o : Int) : askK o 4 = (o == 0) := by simp [askK]
theorem askK_5 (o : Int) : askK o 5 = !(o == 0) := by simp [askK]
theorem Ok.lt {n : Nat} (OK : Ok A n) : A.units < cLine := by have := OK.un; lia
end
end

-- E13
section
open PySem PySem.W PyProof.Rows PySem.Calls
variable {prog : Program} {w : World} {A : Around} {mg mb : Str → Option Value} {h : Heap}
theorem kOp0 {k : KIx} {C x y r r' : Addr} {pm : Value} {ns ms : List Int} {Q : Value → Heap → Prop} {n : Nat} (OK : Ok A (n + 15)) (G : Gd mg mb h) (K : KAt k C pm h) (hcl : h.IsCell k.cl (some (.ref 147)))
    (I : Inst C h x r) (J : Inst C h y r') (ho : IL h r ns) (ht : IL h r' ms) (hn : ns.length ≤ 1000) (hm : ms.length ≤ 1000) (q : ∀ h', KX [] h h' → Q (.bool (decide (orderOf ns ms < 0))) h') :
    hw (model prog w) A (compareOp .Lt (.ref x) (.ref y)) Q h := by
  have OK' : Ok A (n + 14) := OK.mono (by lia)
  have hT : (Value.ref C != Value.ref C) = false := by simp
  obtain ⟨doc, ctv, ha, hr⟩ := FnAt.rec_ K.2.2.2.2.1
  have b := k_bind (prog := prog) (w := w) (Value.ref x) ha rfl
  have l := k_lt (prog := prog) (w := w) K
  show hw _ _ (richCompare .Lt (.ref x) (.ref y)) _ _
  refine hw_rich (name := "__lt__") (f := .ref k.f3) ?_ OK.lt (inst_type I) (inst_type J) hT ?_ ?_ ?_
  · rfl
  · exact l
  · exact b
  · exact kCmp3 OK' G K hcl I J ho ht hn hm fun h' kx => ⟨_, rfl, q h' kx⟩
theorem kOp1 {k : KIx} {C x y r r' : Addr} {pm : Value} {ns ms : List Int} {Q : Value → Heap → Prop} {n : Nat} (OK : Ok A (n + 15)) (G : Gd mg mb h) (K : KAt k C pm h) (hcl : h.IsCell k.cl (some (.ref 147)))
    (I : Inst C h x r) (J : Inst C h y r') (ho : IL h r ns) (ht : IL h r' ms) (hn : ns.length ≤ 1000) (hm : ms.length ≤ 1000) (q : ∀ h', KX [] h h' → Q (.bool (decide (0 < orderOf ns ms))) h') :
    hw (model prog w) A (compareOp .Gt (.ref x) (.ref y)) Q h := by
  have OK' : Ok A (n + 14) := OK.mono (by lia)
  have hT : (Value.ref C != Value.ref C) = false := by simp
  obtain ⟨doc, ctv, ha, hr⟩ := FnAt.rec_ K.2.2.2.2.2.1
  have b := k_bind (prog := prog) (w := w) (Value.ref x) ha rfl
  have l := k_gt (prog := prog) (w := w) K
  show hw _ _ (richCompare .Gt (.ref x) (.ref y)) _ _
  refine hw_rich (name := "__gt__") (f := .ref k.f4) ?_ OK.lt (inst_type I) (inst_type J) hT ?_ ?_ ?_
  · rfl
  · exact l
  · exact b
  · exact kCmp4 OK' G K hcl I J ho ht hn hm fun h' kx => ⟨_, rfl, q h' kx⟩
theorem kOp2 {k : KIx} {C x y r r' : Addr} {pm : Value} {ns ms : List Int} {Q : Value → Heap → Prop} {n : Nat} (OK : Ok A (n + 15)) (G : Gd mg mb h) (K : KAt k C pm h) (hcl : h.IsCell k.cl (some (.ref 147)))
    (I : Inst C h x r) (J : Inst C h y r') (ho : IL h r ns) (ht : IL h r' ms) (hn : ns.length ≤ 1000) (hm : ms.length ≤ 1000) (q : ∀ h', KX [] h h' → Q (.bool (decide (orderOf ns ms ≤ 0))) h') :
    hw (model prog w) A (compareOp .LtE (.ref x) (.ref y)) Q h := by
  have OK' : Ok A (n + 14) := OK.mono (by lia)
  have hT : (Value.ref C != Value.ref C) = false := by simp
  obtain ⟨doc, ctv, ha, hr⟩ := FnAt.rec_ K.2.2.2.2.2.2.2.1
  have b := k_bind (prog := prog) (w := w) (Value.ref x) ha rfl
  have l := k_le (prog := prog) (w := w) K
  show hw _ _ (richCompare .LtE (.ref x) (.ref y)) _ _
  refine hw_rich (name := "__le__") (f := .ref k.f6) ?_ OK.lt (inst_type I) (inst_type J) hT ?_ ?_ ?_
  · rfl
  · exact l
  · exact b
  · exact kCmp6 OK' G K hcl I J ho ht hn hm fun h' kx => ⟨_, rfl, q h' kx⟩
theorem kOp3 {k : KIx} {C x y r r' : Addr} {pm : Value} {ns ms : List Int} {Q : Value → Heap → Prop} {n : Nat} (OK : Ok A (n + 15)) (G : Gd mg mb h) (K : KAt k C pm h) (hcl : h.IsCell k.cl (some (.ref 147)))
    (I : Inst C h x r) (J : Inst C h y r') (ho : IL h r ns) (ht : IL h r' ms) (hn : ns.length ≤ 1000) (hm : ms.length ≤ 1000) (q : ∀ h', KX [] h h' → Q (.bool (decide (0 ≤ orderOf ns ms))) h') :
    hw (model prog w) A (compareOp .GtE (.ref x) (.ref y)) Q h := by
  have OK' : Ok A (n + 14) := OK.mono (by lia)
  have hT : (Value.ref C != Value.ref C) = false := by simp
  obtain ⟨doc, ctv, ha, hr⟩ := FnAt.rec_ K.2.2.2.2.2.2.2.2
  have b := k_bind (prog := prog) (w := w) (Value.ref x) ha rfl
  have l := k_ge (prog := prog) (w := w) K
  show hw _ _ (richCompare .GtE (.ref x) (.ref y)) _ _
  refine hw_rich (name := "__ge__") (f := .ref k.f7) ?_ OK.lt (inst_type I) (inst_type J) hT ?_ ?_ ?_
  · rfl
  · exact l
  · exact b
  · exact kCmp7 OK' G K hcl I J ho ht hn hm fun h' kx => ⟨_, rfl, q h' kx⟩
theorem kOp4 {k : KIx} {C x y r r' : Addr} {pm : Value} {ns ms : List Int} {Q : Value → Heap → Prop} {n : Nat} (OK : Ok A (n + 15)) (G : Gd mg mb h) (K : KAt k C pm h) (hcl : h.IsCell k.cl (some (.ref 147)))
    (I : Inst C h x r) (J : Inst C h y r') (ho : IL h r ns) (ht : IL h r' ms) (hn : ns.length ≤ 1000) (hm : ms.length ≤ 1000) (q : ∀ h', KX [] h h' → Q (.bool (orderOf ns ms == 0)) h') :
    hw (model prog w) A (compareOp .Eq (.ref x) (.ref y)) Q h := by
  have OK' : Ok A (n + 14) := OK.mono (by lia)
  have hT : (Value.ref C != Value.ref C) = false := by simp
  obtain ⟨doc, ctv, ha, hr⟩ := FnAt.rec_ K.2.2.2.2.2.2.1
  have b := k_bind (prog := prog) (w := w) (Value.ref x) ha rfl
  have l := k_eq (prog := prog) (w := w) K
  show hw _ _ (richCompare .Eq (.ref x) (.ref y)) _ _
  refine hw_rich (name := "__eq__") (f := .ref k.f5) ?_ OK.lt (inst_type I) (inst_type J) hT ?_ ?_ ?_
  · rfl
  · exact l
  · exact b
  · exact kCmp5 OK' G K hcl I J ho ht hn hm fun h' kx => ⟨_, rfl, q h' kx⟩
theorem kOp5 {k : KIx} {C x y r r' : Addr} {pm : Value} {ns ms : List Int} {Q : Value → Heap → Prop} {n : Nat} (OK : Ok A (n + 15)) (G : Gd mg mb h) (K : KAt k C pm h) (hcl : h.IsCell k.cl (some (.ref 147)))
    (I : Inst C h x r) (J : Inst C h y r') (ho : IL h r ns) (ht : IL h r' ms) (hn : ns.length ≤ 1000) (hm : ms.length ≤ 1000) (q : ∀ h', KX [] h h' → Q (.bool (!(orderOf ns ms == 0))) h') :
    hw (model prog w) A (compareOp .NotEq (.ref x) (.ref y)) Q h := by
  have OK' : Ok A.in1 (n + 14) := Ok.in1 OK
  have hT : (Value.ref C != Value.ref C) = false := by simp
  obtain ⟨doc, ctv, ha, hr⟩ := FnAt.rec_ K.2.2.2.2.2.2.1
  obtain ⟨bT, t, tq, a1⟩ := K.1
  have b := k_bind (prog := prog) (w := w) (Value.ref x) ha rfl
  have l := k_eq (prog := prog) (w := w) K
  have l2 := k_ne (prog := prog) (w := w) K
  show hw _ _ (richCompare .NotEq (.ref x) (.ref y)) _ _
  refine hw_rich (name := "__ne__") (f := .builtin "object.__ne__") ?_ OK.lt (inst_type I) (inst_type J) hT ?_ ?_ ?_
  · rfl
  · exact l2
  · exact Looks.of_pure (ne_bind _)
  · refine hw_objNe (T := .ref C) (f := .ref k.f5) OK'.lt (inst_type I) ?_ l b ?_
    · exact (inst_type I).andThen (k_top a1)
    · exact kCmp5 OK' G K hcl I J ho ht hn hm fun h' kx => ⟨_, rfl, _, rfl, q h' kx⟩
theorem hw_cmpK {k : KIx} {C x y r r' : Addr} {pm : Value} {ns ms : List Int} {op : CmpOp} {i : Nat} {Q : Value → Heap → Prop} {n : Nat} (a : AskOp op i) (OK : Ok A (n + 15)) (G : Gd mg mb h) (K : KAt k C pm h) (hcl : h.IsCell k.cl (some (.ref 147)))
    (I : Inst C h x r) (J : Inst C h y r') (ho : IL h r ns) (ht : IL h r' ms) (hn : ns.length ≤ 1000) (hm : ms.length ≤ 1000) (q : ∀ h', KX [] h h' → Q (.bool (askK (orderOf ns ms) i)) h') :
    hw (model prog w) A (compareOp op (.ref x) (.ref y)) Q h := by
  cases a
  · exact kOp0 OK G K hcl I J ho ht hn hm fun h' kx => by rw [← askK_0]; exact q h' kx
  · exact kOp1 OK G K hcl I J ho ht hn hm fun h' kx => by rw [← askK_1]; exact q h' kx
  · exact kOp2 OK G K hcl I J ho ht hn hm fun h' kx => by rw [← askK_2]; exact q h' kx
  · exact kOp3 OK G K hcl I J ho ht hn hm fun h' kx => by rw [← askK_3]; exact q h' kx
  · exact kOp4 OK G K hcl I J ho ht hn hm fun h' kx => by rw [← askK_4]; exact q h' kx
  · exact kOp5 OK G K hcl I J ho ht hn hm fun h' kx => by rw [← askK_5]; exact q h' kx
/-- the sort's question -/
theorem hw_ltK {k : KIx} {C x y r r' : Addr} {pm : Value} {ns ms : List Int} {Q : Bool → Heap → Prop} {n : Nat} (OK : Ok A (n + 15)) (G : Gd mg mb h) (K : KAt k C pm h) (hcl : h.IsCell k.cl (some (.ref 147)))
    (I : Inst C h x r) (J : Inst C h y r') (ho : IL h r ns) (ht : IL h r' ms) (hn : ns.length ≤ 1000) (hm : ms.length ≤ 1000) (q : ∀ h', KX [] h h' → Q (decide (orderOf ns ms < 0)) h') :
    hw (model prog w) A (keyLt' oneType' (.ref x) (.ref y)) Q h := by
  intro s e
  subst e
  have OK' : Ok A (n + 14) := OK.mono (by lia)
  obtain ⟨doc, ctv, ha, hr⟩ := FnAt.rec_ K.2.2.2.2.1
  have b := k_bind (prog := prog) (w := w) (Value.ref x) ha rfl
  have l := k_lt (prog := prog) (w := w) K
  have z := kCmp3 (Q := fun v h' => v = .bool (decide (orderOf ns ms < 0)) ∧ KX [] s.heap h') (prog := prog) (w := w) OK' G K hcl I J ho ht hn hm fun h' kx => ⟨rfl, kx⟩
  have y := hw_ifBound (name := "__lt__") (f := .ref k.f3) (args := [.ref y]) (Q := fun v h' => v = some (.bool (decide (orderOf ns ms < 0))) ∧ KX [] s.heap h') (inst_type I) l b (hw_mono z fun v h' u => ⟨congrArg some u.1, u.2⟩)
  rw [keyLt'_oneType, oneLt'_eq]
  simp only [if_true]
  refine wpAny_bind (wpAny_cRoomFor OK.lt ?_)
  refine wpAny_bind (wpAny_mono (y s rfl) (fun v s' z => ?_) fun _ _ e => e.elim)
  obtain ⟨sm, rfl, kx⟩ := z
  exact wpAny_truthy_bool ⟨sm, q _ kx⟩
end

-- S1
section
open PySem PySem.W PyProof.Rows
/-! ## The sort's tree of questions: what it answers for a key of ints -/
noncomputable def askP {α : Type} (lt : Nat → Nat → Bool) (n : Nat) : KasT α → (α → Prop) → Prop
  | .ret a, Q => Q a
  | .ask i j k, Q => i < n ∧ j < n ∧ askP lt n (k (lt i j)) Q
theorem askP_bind {α β : Type} {lt : Nat → Nat → Bool} {n : Nat} {f : α → KasT β} {Q : β → Prop} : ∀ (t : KasT α), askP lt n t (fun a => askP lt n (f a) Q) → askP lt n (t.bind f) Q
  | .ret _, h => h
  | .ask i j k, h => ⟨h.1, h.2.1, askP_bind (k (lt i j)) h.2.2⟩
theorem askP_wp {α : Type} {lt : Nat → Nat → Bool} {n : Nat} {cmp : Nat → Nat → (Bool → Shared → Prop) → Shared → Prop} {I : Shared → Prop} {Q : α → Prop} {Q' : α → Shared → Prop}
    (hc : ∀ i j s, i < n → j < n → I s → ∀ C : Bool → Shared → Prop, (∀ s', I s' → C (lt i j) s') → cmp i j C s) (q : ∀ a s, I s → Q a → Q' a s) : ∀ (t : KasT α) (s : Shared), I s → askP lt n t Q → t.kasWp cmp Q' s
  | .ret a, s, i, h => q a s i h
  | .ask i j k, s, hi, h => hc i j s h.1 h.2.1 hi _ fun s' hi' => askP_wp hc q (k (lt i j)) s' hi' h.2.2

section
variable (key : Nat → Int)
noncomputable def klt (a b : Nat) : Bool := decide (key a < key b)
noncomputable def LL2 (a b : Nat) : Prop := key a < key b ∨ (key a = key b ∧ a < b)
variable {key}
theorem LL2.trans {a b c : Nat} (x : LL2 key a b) (y : LL2 key b c) : LL2 key a c := by unfold LL2 at *; lia
theorem LL2.irrefl {a : Nat} (x : LL2 key a a) : False := by unfold LL2 at *; lia
theorem ask_if {α : Type} {N i j : Nat} {k : Bool → KasT α} {Q : α → Prop} (hi : i < N) (hj : j < N) (t : key i < key j → askP (klt key) N (k true) Q) (f : ¬ key i < key j → askP (klt key) N (k false) Q) : askP (klt key) N (.ask i j k) Q := by
  refine ⟨hi, hj, ?_⟩
  unfold klt
  by_cases h : key i < key j
  · rw [decide_eq_true h]; exact t h
  · rw [decide_eq_false h]; exact f h

structure PI (N n : Nat) (p : Array Nat) : Prop where
  sz : p.size = N
  pm : p.Perm (List.range N).toArray
  hi : ∀ k, n ≤ k → k < N → p.getD k 0 = k
  lo : ∀ k, k < n → p.getD k 0 < n
  le : n ≤ N
noncomputable def AscK (key : Nat → Int) (n : Nat) (p : Array Nat) : Prop := ∀ i j, i < j → j < n → LL2 key (p.getD i 0) (p.getD j 0)
noncomputable def DescK (key : Nat → Int) (n : Nat) (p : Array Nat) : Prop := ∀ i j, i < j → j < n → LL2 key (p.getD j 0) (p.getD i 0)
theorem PI.succ {N n : Nat} {p : Array Nat} (x : PI N n p) (h : n < N) : PI N (n + 1) p :=
  ⟨x.sz, x.pm, fun k a b => x.hi k (by lia) b, fun k a => by
    by_cases e : k = n
    · subst e; rw [x.hi k (Nat.le_refl _) h]; lia
    · have := x.lo k (by lia); lia, h⟩
theorem PI.bd {N n : Nat} {p : Array Nat} (x : PI N n p) {k : Nat} (h : k < N) : p.getD k 0 < N := by
  by_cases e : k < n
  · exact Nat.lt_of_lt_of_le (x.lo k e) x.le
  · rw [x.hi k (by lia) h]; exact h
theorem getD_opt {p : Array Nat} {k : Nat} : p.getD k 0 = (p[k]?).getD 0 := by
  by_cases h : k < p.size
  · simp [Array.getD, h]
  · simp [Array.getD, h]
theorem rev_get {N n i j : Nat} {p : Array Nat} (x : PI N n p) (hj : j ≤ N) (k : Nat) : (kas_rev p i j).getD k 0 = if i ≤ k ∧ k < j then p.getD (i + j - 1 - k) 0 else p.getD k 0 := by
  unfold kas_rev
  rw [getD_opt, getElem?_mirror_all (by rw [x.sz]; exact hj)]
  split <;> rw [getD_opt]
theorem PI.rev {N n i j : Nat} {p : Array Nat} (x : PI N n p) (hj : j ≤ n) : PI N n (kas_rev p i j) := by
  have hjN : j ≤ N := Nat.le_trans hj x.le
  refine ⟨by rw [kas_rev_size]; exact x.sz, (mirror_perm _ _ _ _).trans x.pm, fun k a b => ?_, fun k a => ?_, x.le⟩
  · rw [rev_get x hjN, if_neg (by lia)]; exact x.hi k a b
  · rw [rev_get x hjN]
    split
    · exact x.lo _ (by lia)
    · exact x.lo _ a
theorem asc_step {N n : Nat} {p : Array Nat} (x : PI N n p) (a : AscK key n p) (h1 : 1 ≤ n) (hn : n < N) (hc : ¬ key (p.getD n 0) < key (p.getD (n - 1) 0)) : AscK key (n + 1) p := by
  intro i j hij hj
  by_cases e : j = n
  · subst e
    have hj' := x.hi j (Nat.le_refl _) hn
    have hlo := x.lo i hij
    by_cases e2 : i = j - 1
    · subst e2
      unfold LL2; rw [hj'] at hc ⊢; lia
    · have := a i (j - 1) (by lia) (by lia)
      unfold LL2 at *; rw [hj'] at hc ⊢; lia
  · exact a i j hij (by lia)
theorem asc_run {N : Nat} {p : Array Nat} {Q : Nat → Prop} : ∀ (f n : Nat), n + f = N → 1 ≤ n → PI N n p → AscK key n p →
    (∀ m, n ≤ m → m ≤ N → PI N m p → AscK key m p → (m = N ∨ (m < N ∧ key (p.getD m 0) < key (p.getD (m - 1) 0))) → Q m) → askP (klt key) N (kas_asc p f n) Q
  | 0, n, hf, h1, x, a, q => q n (Nat.le_refl _) (by lia) x a (.inl (by lia))
  | f + 1, n, hf, h1, x, a, q => by
    refine ask_if (x.bd (by lia)) (x.bd (by lia)) (fun hc => ?_) fun hc => ?_
    · exact q n (Nat.le_refl _) (by lia) x a (.inr ⟨by lia, hc⟩)
    · exact asc_run f (n + 1) (by lia) (by lia) (x.succ (by lia)) (asc_step x a h1 (by lia) hc) fun m hm => q m (by lia)
structure DQ (key : Nat → Int) (n q : Nat) (p : Array Nat) : Prop where
  le : q + 1 ≤ n
  eq : ∀ i j, n - (q + 1) ≤ i → i < j → j < n → key (p.getD i 0) = key (p.getD j 0) ∧ p.getD i 0 < p.getD j 0
  gt : ∀ i j, i < n - (q + 1) → n - (q + 1) ≤ j → j < n → key (p.getD j 0) < key (p.getD i 0)
  ds : DescK key (n - (q + 1)) p
theorem DQ.close {N n q : Nat} {p : Array Nat} (x : PI N n p) (d : DQ key n q p) : DescK key n (kas_rev p (n - (q + 1)) n) := by
  intro i j hij hj
  have hle := d.le
  rw [rev_get x x.le, rev_get x x.le]
  by_cases h1 : n - (q + 1) ≤ i
  · rw [if_pos (by lia), if_pos (by lia)]
    have := d.eq (n - (q + 1) + n - 1 - j) (n - (q + 1) + n - 1 - i) (by lia) (by lia) (by lia)
    unfold LL2; lia
  · by_cases h2 : n - (q + 1) ≤ j
    · rw [if_pos (by lia), if_neg (by lia)]
      have := d.gt i (n - (q + 1) + n - 1 - j) (by lia) (by lia) (by lia)
      unfold LL2; lia
    · rw [if_neg (by lia), if_neg (by lia)]
      exact d.ds i j hij (by lia)
theorem DQ.close0 {N n : Nat} {p : Array Nat} (x : PI N n p) (d : DQ key n 0 p) : DescK key n p := by
  intro i j hij hj
  by_cases h2 : n - (0 + 1) ≤ j
  · have := d.gt i j (by lia) h2 hj
    unfold LL2; lia
  · exact d.ds i j hij (by lia)
theorem DQ.fresh {N n : Nat} {p : Array Nat} (x : PI N n p) (hn : n < N) (d : DescK key n p) (hl : ∀ i, i < n → key (p.getD n 0) < key (p.getD i 0)) : DQ key (n + 1) 0 p := by
  refine ⟨by lia, fun i j a b c => absurd b (by lia), fun i j a b c => ?_, fun i j a b => d i j a (by lia)⟩
  have : j = n := by lia
  subst this
  exact hl i (by lia)
theorem desc_run {N : Nat} {Q : Array Nat × Nat × Nat → Prop} : ∀ (f n q : Nat) (p : Array Nat), n + f = N → PI N n p → DQ key n q p →
    (∀ p' m q', n ≤ m → m ≤ N → PI N m p' → DQ key m q' p' → Q (p', m, q')) → askP (klt key) N (kas_desc f p n q) Q
  | 0, n, q, p, hf, x, d, k => k p n q (Nat.le_refl _) (by lia) x d
  | f + 1, n, q, p, hf, x, d, k => by
    have hle := d.le
    refine ask_if (x.bd (by lia)) (x.bd (by lia)) (fun hc => ?_) fun hc => ?_
    · show askP (klt key) N (if q > 0 then kas_desc f (kas_rev p (n - (q + 1)) n) (n + 1) 0 else kas_desc f p (n + 1) 0) Q
      have low : ∀ i, i < n → key (p.getD n 0) < key (p.getD i 0) := fun i hi => by
        by_cases e : i = n - 1
        · subst e; exact hc
        · by_cases e2 : n - (q + 1) ≤ i
          · have := d.eq i (n - 1) e2 (by lia) (by lia); lia
          · have := d.gt i (n - 1) (by lia) (by lia) (by lia); lia
      by_cases hq : q > 0
      · rw [if_pos hq]
        refine desc_run f (n + 1) 0 _ (by lia) ((x.rev (Nat.le_refl _)).succ (by lia)) (DQ.fresh (x.rev (Nat.le_refl _)) (by lia) (d.close x) fun i hi => ?_) fun p' m q' h => k p' m q' (by lia)
        rw [rev_get x x.le, if_neg (by lia), rev_get x x.le]
        split
        · exact low _ (by lia)
        · exact low _ hi
      · rw [if_neg hq]
        have : q = 0 := by lia
        subst this
        exact desc_run f (n + 1) 0 _ (by lia) (x.succ (by lia)) (DQ.fresh x (by lia) (d.close0 x) low) fun p' m q' h => k p' m q' (by lia)
    · refine ask_if (x.bd (by lia)) (x.bd (by lia)) (fun hd => ?_) fun hd => ?_
      · exact k p n q (Nat.le_refl _) (by lia) x d
      · show askP (klt key) N (kas_desc f p (n + 1) (q + 1)) Q
        have hn := x.hi n (Nat.le_refl _) (by lia)
        have ee : key (p.getD n 0) = key (p.getD (n - 1) 0) := by lia
        refine desc_run f (n + 1) (q + 1) p (by lia) (x.succ (by lia)) ⟨by lia, fun i j a b c => ?_, fun i j a b c => ?_, ?_⟩ fun p' m q' h => k p' m q' (by lia)
        · by_cases e : j = n
          · subst e
            have lo := x.lo i b
            rw [ee, hn]
            refine ⟨?_, lo⟩
            by_cases e2 : i = j - 1
            · rw [e2]
            · exact (d.eq i (j - 1) (by lia) (by lia) (by lia)).1
          · exact d.eq i j (by lia) b (by lia)
        · by_cases e : j = n
          · subst e
            rw [ee]
            exact d.gt i (j - 1) (by lia) (by lia) (by lia)
          · exact d.gt i j (by lia) (by lia) (by lia)
        · have e : n + 1 - (q + 1 + 1) = n - (q + 1) := by lia
          rw [e]; exact d.ds
theorem tail3_run {N n : Nat} {p : Array Nat} {Q : Nat × Array Nat → Prop} (h1 : 1 ≤ n) (hn : n ≤ N) (x : PI N n p) (d : DescK key n p)
    (k : ∀ m p', 1 ≤ m → m ≤ N → PI N m p' → AscK key m p' → Q (m, p')) : askP (klt key) N (kas_tail3 n N p) Q := by
  unfold kas_tail3
  refine askP_bind _ (asc_run _ n (by lia) h1 (x.rev (Nat.le_refl _)) (fun i j hij hj => ?_) fun m hm hmN x' a' _ => k m _ (by lia) hmN x' a')
  rw [rev_get x hn, rev_get x hn, if_pos (by lia), if_pos (by lia)]
  exact d _ _ (by lia) (by lia)
theorem descPart_run {N n : Nat} {p : Array Nat} {Q : Nat × Array Nat → Prop} (hn : n < N) (x : PI N n p) (d : DescK key n p) (hl : ∀ i, i < n → key (p.getD n 0) < key (p.getD i 0))
    (k : ∀ m p', 1 ≤ m → m ≤ N → PI N m p' → AscK key m p' → Q (m, p')) : askP (klt key) N (kas_descPart n N p) Q := by
  unfold kas_descPart
  refine askP_bind _ (desc_run _ (n + 1) 0 p (by lia) (x.succ hn) (DQ.fresh x hn d hl) fun p' m q' h1 h2 x' d' => ?_)
  show askP _ _ (if q' > 0 then kas_tail3 m N (kas_rev p' (m - (q' + 1)) m) else kas_tail3 m N p') Q
  by_cases hq : q' > 0
  · rw [if_pos hq]
    exact tail3_run (by lia) h2 (x'.rev (Nat.le_refl _)) (d'.close x') k
  · rw [if_neg hq]
    have : q' = 0 := by lia
    subst this
    exact tail3_run (by lia) h2 x' (d'.close0 x') k
theorem count_run {N : Nat} {p : Array Nat} {Q : Nat × Array Nat → Prop} (h1 : 1 ≤ N) (x : PI N 1 p)
    (k : ∀ m p', 1 ≤ m → m ≤ N → PI N m p' → AscK key m p' → Q (m, p')) : askP (klt key) N (kas_count N p) Q := by
  unfold kas_count
  refine askP_bind _ (asc_run _ 1 (by lia) (Nat.le_refl _) x (fun i j a b => absurd b (by lia)) fun n hn hnN x' a' hor => ?_)
  by_cases e : n = N
  · rw [if_pos (by simpa using e)]
    exact k n p hn hnN x' a'
  · rw [if_neg (by simpa using e)]
    have hlt : key (p.getD n 0) < key (p.getD (n - 1) 0) := (hor.resolve_left e).2
    by_cases hg : n > 1
    · rw [if_pos hg]
      refine ask_if (x'.bd (by lia)) (x'.bd (by lia)) (fun hc => ?_) fun hc => ?_
      · exact k n p hn hnN x' a'
      · show askP (klt key) N (kas_descPart n N (kas_rev p 0 n)) Q
        have all : ∀ i, i < n → key (p.getD i 0) = key (p.getD (n - 1) 0) := fun i hi => by
          have u : i = 0 ∨ LL2 key (p.getD 0 0) (p.getD i 0) := (Nat.eq_zero_or_pos i).imp id fun h => a' 0 i h hi
          have v : i = n - 1 ∨ LL2 key (p.getD i 0) (p.getD (n - 1) 0) := by
            by_cases e : i = n - 1
            · exact .inl e
            · exact .inr (a' i (n - 1) (by lia) (by lia))
          rcases v with rfl | v
          · rfl
          · rcases u with rfl | u
            · unfold LL2 at v; lia
            · unfold LL2 at u v; lia
        refine descPart_run (by lia) (x'.rev (Nat.le_refl _)) (fun i j hij hj => ?_) (fun i hi => ?_) k
        · rw [rev_get x' hnN, rev_get x' hnN, if_pos (by lia), if_pos (by lia)]
          have := a' (0 + n - 1 - j) (0 + n - 1 - i) (by lia) (by lia)
          exact this
        · rw [rev_get x' hnN n, rev_get x' hnN i, if_neg (by lia), if_pos (by lia)]
          rw [all (0 + n - 1 - i) (by lia)]; exact hlt
    · rw [if_neg hg]
      have : n = 1 := by lia
      subst this
      refine descPart_run (by lia) x' (fun i j hij hj => absurd hj (by lia)) (fun i hi => ?_) k
      have : i = 0 := by lia
      subst this; exact hlt
theorem place_run {N k : Nat} {p : Array Nat} {Q : Nat → Prop} (hk : k < N) (x : PI N k p) (a : AscK key k p)
    (q : ∀ l, l ≤ k → (∀ i, i < l → key (p.getD i 0) ≤ key (p.getD k 0)) → (∀ i, l ≤ i → i < k → key (p.getD k 0) < key (p.getD i 0)) → Q l) : ∀ (f l r : Nat), l ≤ r → r ≤ k → r - l ≤ f →
    (∀ i, i < l → key (p.getD i 0) ≤ key (p.getD k 0)) → (∀ i, r ≤ i → i < k → key (p.getD k 0) < key (p.getD i 0)) → askP (klt key) N (kas_place p k f l r) Q
  | 0, l, r, h1, h2, h3, u, v => by
    have : l = r := by lia
    subst this
    exact q l h2 u v
  | f + 1, l, r, h1, h2, h3, u, v => by
    rw [kas_place]
    by_cases hge : l ≥ r
    · rw [if_pos hge]
      have : l = r := by lia
      subst this
      exact q l h2 u v
    · rw [if_neg hge]
      refine ask_if (x.bd hk) (x.bd (by lia)) (fun hc => ?_) fun hc => ?_
      · show askP (klt key) N (kas_place p k f l ((l + r) / 2)) Q
        refine place_run hk x a q f l ((l + r) / 2) (by lia) (by lia) (by lia) u fun i hi hik => ?_
        by_cases e : i = (l + r) / 2
        · subst e; exact hc
        · have := a ((l + r) / 2) i (by lia) hik
          unfold LL2 at this; lia
      · show askP (klt key) N (kas_place p k f ((l + r) / 2 + 1) r) Q
        refine place_run hk x a q f ((l + r) / 2 + 1) r (by lia) h2 (by lia) (fun i hi => ?_) v
        by_cases e : i = (l + r) / 2
        · subst e; lia
        · have := a i ((l + r) / 2) (by lia) (by lia)
          unfold LL2 at this; lia
theorem bub_get {N n k l : Nat} {p : Array Nat} (x : PI N n p) (hk : k < N) (hl : l ≤ k) (i : Nat) : (bubble p k (k - l)).getD i 0 = if i = l then p.getD k 0 else if l < i ∧ i ≤ k then p.getD (i - 1) 0 else p.getD i 0 := by
  rw [getD_opt, getElem?_bubble (by rw [x.sz]; exact hk) _ (by lia), show k - (k - l) = l from by lia]
  split
  · rw [getD_opt]
  · split <;> rw [getD_opt]
theorem bin_run {N : Nat} {Q : Array Nat → Prop} (q : ∀ p', PI N N p' → AscK key N p' → Q p') : ∀ (f k : Nat) (p : Array Nat), k + f = N → PI N k p → AscK key k p → askP (klt key) N (kas_bin f p k) Q
  | 0, k, p, hf, x, a => by
    have : k = N := by lia
    subst this
    exact q p x a
  | f + 1, k, p, hf, x, a => by
    rw [kas_bin]
    have hk : k < N := by lia
    refine askP_bind _ (place_run hk x a (fun l hl u v => ?_) k 0 k (Nat.zero_le _) (Nat.le_refl _) (by lia) (fun i h => absurd h (by lia)) fun i h h' => absurd h (by lia))
    have g := bub_get x hk hl
    have xk := x.hi k (Nat.le_refl _) hk
    refine bin_run q f (k + 1) _ (by lia) ⟨by rw [bubble_size]; exact x.sz, (bubble_perm _ _ _).trans x.pm, fun i h1 h2 => ?_, fun i h => ?_, hk⟩ fun i j hij hj => ?_
    · rw [g, if_neg (by lia), if_neg (by lia)]
      exact x.hi i (by lia) h2
    · rw [g]
      split
      · lia
      · split
        · have := x.lo (i - 1) (by lia); lia
        · have := x.lo i (by lia); lia
    · rw [g, g]
      by_cases h1 : i = l
      · rw [if_pos h1, if_neg (by lia), if_pos (by lia)]
        have := v (j - 1) (by lia) (by lia)
        unfold LL2; lia
      · rw [if_neg h1]
        by_cases h2 : j = l
        · rw [if_pos h2, if_neg (by lia)]
          have := u i (by lia)
          have := x.lo i (by lia)
          unfold LL2; lia
        · rw [if_neg h2]
          by_cases h3 : l < i ∧ i ≤ k
          · rw [if_pos h3, if_pos (by lia)]
            exact a _ _ (by lia) (by lia)
          · rw [if_neg h3]
            by_cases h4 : l < j ∧ j ≤ k
            · rw [if_pos h4]
              exact a _ _ (by lia) (by lia)
            · rw [if_neg h4]
              exact a _ _ (by lia) (by lia)
/-- what the sort leaves: the places in the order of the keys, like ones as they came -/
noncomputable def SortOut (key : Nat → Int) (N : Nat) (p : Array Nat) : Prop := PI N N p ∧ AscK key N p
theorem sort_run {N : Nat} (h2 : 2 ≤ N) : askP (klt key) N (kas_sort N) (SortOut key N) := by
  unfold kas_sort
  have g : ∀ k, k < N → (List.range N).toArray.getD k 0 = k := fun k h => by simp [Array.getD, h]
  refine askP_bind _ (count_run (by lia) ⟨by simp, Array.Perm.refl _, fun k a b => g k b, fun k a => by rw [g k (by lia)]; exact a, by lia⟩ fun m p' h1 hm x a => ?_)
  show askP _ _ (if m < N then kas_bin (N - max m 1) p' (max m 1) else .ret p') _
  by_cases h : m < N
  · rw [if_pos h, Nat.max_eq_left h1]
    exact bin_run (fun p' x a => ⟨x, a⟩) _ _ _ (by lia) x a
  · rw [if_neg h]
    have : m = N := by lia
    subst this
    exact ⟨x, a⟩
theorem SortOut.mem {N : Nat} {p : Array Nat} (x : SortOut key N p) : p.toList.Perm (List.range N) := Array.perm_iff_toList_perm.mp x.1.pm
theorem SortOut.pair {N : Nat} {p : Array Nat} (x : SortOut key N p) : p.toList.Pairwise (LL2 key) := by
  rw [List.pairwise_iff_getElem]
  intro i j hi hj hij
  have hi' : i < p.size := by simpa using hi
  have hj' : j < p.size := by simpa using hj
  have := x.2 i j hij (by rw [← x.1.sz]; exact hj')
  have e1 : p.getD i 0 = p.toList[i] := by simp [Array.getD, hi']
  have e2 : p.getD j 0 = p.toList[j] := by simp [Array.getD, hj']
  rwa [e1, e2] at this
theorem SortOut.uniq {key' : Nat → Int} {N : Nat} {p p' : Array Nat} (x : SortOut key N p) (y : SortOut key' N p') (h : ∀ a b, a < N → b < N → (LL2 key a b ↔ LL2 key' a b)) : p = p' := by
  apply Array.toList_inj.mp
  refine List.Perm.eq_of_pairwise (le := LL2 key) (fun a b _ _ u v => (LL2.irrefl (u.trans v)).elim) x.pair ?_ (x.mem.trans y.mem.symm)
  refine List.Pairwise.imp_of_mem (fun {a b} ha hb r => (h a b ?_ ?_).mpr r) y.pair
  · exact List.mem_range.mp (y.mem.mem_iff.mp ha)
  · exact List.mem_range.mp (y.mem.mem_iff.mp hb)
end
end

-- S2
section
open PySem PySem.W PyProof.Rows PySem.Calls
section
variable {prog : Program} {w : World} {A : Around} {h : Heap}
/-- the runs of the sort, over any things whose question is answered by a key of ints -/
theorem sort_it {it : Array Keyed} {n : Nat} {key : Nat → Int} {I : Heap → Prop} {s : Shared} {E : Value → Shared → Prop} (h2 : 2 ≤ n) (h64 : n < 64) (hI : I s.heap)
    (cmp : ∀ i j h', i < n → j < n → I h' → hw (model prog w) A (keyLt' oneType' (kas_item it i).1 (kas_item it j).1) (fun b h'' => b = klt key i j ∧ I h'') h') :
    wpAny (model prog w) A (sortRuns'.run (kas_st oneType' it (List.range n).toArray)) (fun r s' => ∃ p, Sm s s' ∧ I s'.heap ∧ SortOut key n p ∧ arrOf r.2 = p.map (kas_item it) ∧ failedOf r.2 = none) E s := by
  refine kas_runs (prog := prog) (w := w) (A := A) (E := E) (κ := oneType') (it := it) (n := n) (s := s) (Q := fun _ st' s' => ∃ p, Sm s s' ∧ I s'.heap ∧ SortOut key n p ∧ arrOf st' = p.map (kas_item it) ∧ failedOf st' = none)
    (G := fun p s' => Sm s s' ∧ I s'.heap ∧ SortOut key n p) h2 h64 (fun p' st' s' _ a b ⟨c, d, e⟩ => ⟨p', c, d, e, a, b⟩)
    (askP_wp (lt := klt key) (n := n) (I := fun s' => Sm s s' ∧ I s'.heap) (Q := SortOut key n) (fun i j s' hi hj ⟨sm, hI'⟩ C hC => ?_) (fun p s' ⟨sm, i⟩ q => ⟨sm, i, q⟩) (kas_sort n) s ⟨Sm.refl s, hI⟩ (sort_run h2))
  unfold kas_cmp
  refine wpAny_mono (cmp i j s'.heap hi hj hI' s' rfl) (fun b s'' ⟨sm', e, i⟩ => ?_) fun _ _ f => f
  subst e
  exact hC s'' ⟨sm.trans sm', i⟩
theorem kx_upd {h : Heap} {a : Addr} (f : Obj → Obj) : KX [a] h (h.update a f) := KX.same (Heap.SameBut.update h a f) (.head _)
theorem islist_of {h : Heap} {a : Addr} {xs : Array Value} {n : Nat} (e : h.get? a = some (seqObj "list" xs n)) : h.IsList a xs := ⟨_, e, rfl, n, rfl⟩
/-- list.sort without a key -/
theorem sort_plain {a : Addr} {vs : List Value} {n0 : Nat} {key : Nat → Int} {T : Value} {P : PySem.Fin → Shared → Prop} {E : Value → Shared → Prop} {s : Shared} (ho : s.heap.get? a = some (seqObj "list" vs.toArray n0)) (h2 : 2 ≤ vs.length) (h64 : vs.length < 64)
    (hT : ∀ h', KX [a] s.heap h' → ∀ v ∈ vs, Looks (model prog w) h' (typeOf v) T) (hT1 : (T != Value.type "tuple") = true) (hT2 : (T == T) = true)
    (cmp : ∀ i j h', i < vs.length → j < vs.length → KX [a] s.heap h' → hw (model prog w) A (keyLt' oneType' (vs.getD i .none) (vs.getD j .none)) (fun b h'' => b = klt key i j ∧ KX [] h' h'') h')
    (q : ∀ p s', Sm s s' → KX [a] s.heap s'.heap → s'.heap.IsList a (p.toList.map fun i => vs.getD i .none).toArray → SortOut key vs.length p → P (.done (.ret .none)) s') : wpAny (model prog w) A (Builtin.«list.sort» ⟨[.ref a], []⟩) P E s := by
  have ha : a < s.heap.objs.size := Heap.lt_size ho
  obtain ⟨e1, ho1⟩ : ∃ e1, (s.heap.update a (Obj.mapSeq fun _ => (#[] : Array Value))).get? a = some (seqObj "list" #[] e1) := ⟨_, get?_update_seq ho fun _ => #[]⟩
  have k3 : KX [a] s.heap (((s.heap.update a (Obj.mapSeq fun _ => (#[] : Array Value))).push (seqObj "tuple" vs.toArray 0)).push (seqObj "list" #[] 0)) := ((kx_upd _).trans (KX.push _ _ _)).trans (KX.push _ _ _)
  have ho3 : (((s.heap.update a (Obj.mapSeq fun _ => (#[] : Array Value))).push (seqObj "tuple" vs.toArray 0)).push (seqObj "list" #[] 0)).get? a = some (seqObj "list" #[] e1) := Heap.get?_push_of_some _ (Heap.get?_push_of_some _ ho1)
  rw [list_sort_plain]
  refine wpAny_bind (listItems_at ho rfl ?_)
  refine wpAny_bind (listUpdate_at ho rfl ?_ (by rw [List.size_toArray, sizeLine_eq]; lia) (Nat.zero_le _))
  refine wpAny_bind (seqEpoch_at ho1 rfl ?_)
  refine wpAny_bind (wpAny_newTuple ?_ (by show vs.length ≤ _; rw [sizeLine_eq]; lia))
  refine wpAny_bind (wpAny_newList ?_ (Nat.zero_le _))
  refine wpAny_holding ?_
  show wpAny (model prog w) A _ P E { s with heap := ((s.heap.update a (Obj.mapSeq fun _ => #[])).push (seqObj "tuple" vs.toArray 0)).push (seqObj "list" #[] 0) }
  generalize ((s.heap.update a (Obj.mapSeq fun _ => (#[] : Array Value))).push (seqObj "tuple" vs.toArray 0)).push (seqObj "list" #[] 0) = g3 at k3 ho3 ⊢
  dsimp only
  have hn2 : ¬ vs.toArray.size < 2 := by rw [List.size_toArray]; lia
  rw [if_neg hn2, if_neg hn2]
  refine wpAny_bind (kas_kind h2 (hT _ k3) hT1 hT2 ?_)
  have est : SortSt.mk' oneType' (vs.toArray.zip vs.toArray) #[] 7 none = kas_st oneType' (pairsOf vs) (List.toArray (List.range vs.length)) := by
    have e := kas_range (pairsOf vs)
    rw [pairsOf_size] at e
    show SortSt.mk' oneType' (pairsOf vs) #[] 7 none = SortSt.mk' oneType' ((List.toArray (List.range vs.length)).map (kas_item (pairsOf vs))) #[] 7 none
    rw [e]
  have run := sort_it (prog := prog) (w := w) (A := A) (E := E) (it := pairsOf vs) (key := key) (s := { s with heap := g3 }) (I := fun h' => KX [a] s.heap h' ∧ h'.get? a = some (seqObj "list" #[] e1)) h2 h64 ⟨k3, ho3⟩ fun i j h' hi hj ⟨k, o⟩ => by
    rw [kas_item_eq, kas_item_eq]
    exact hw_mono (cmp i j h' hi hj k) fun b h'' ⟨e, k'⟩ => ⟨e, k.trans k'.any, k'.all _ _ o⟩
  rw [← est] at run
  refine wpAny_bind (wpAny_mono run ?_ fun _ _ e => e)
  rintro ⟨⟨⟩, st'⟩ s' ⟨p, sm, ⟨k, na⟩, hs, har, hf⟩
  dsimp only
  have hout : (arrOf st').map (·.2) = List.toArray (p.toList.map fun i => vs.getD i Value.none) := by
    apply Array.toList_inj.mp
    rw [har, Array.map_map, Array.toList_map]
    exact List.map_congr_left fun i _ => by show (kas_item (pairsOf vs) i).2 = _; rw [kas_item_eq]
  have hsz : (List.toArray (p.toList.map fun i => vs.getD i Value.none)).size = vs.length := by rw [List.size_toArray, List.length_map, Array.length_toList, hs.1.sz]
  rw [hout]
  obtain ⟨c2, hc2⟩ : ∃ c2, (s'.heap.update a (Obj.mapSeq fun _ => List.toArray (p.toList.map fun i => vs.getD i Value.none))).get? a = some (seqObj "list" (List.toArray (p.toList.map fun i => vs.getD i Value.none)) c2) := ⟨_, get?_update_seq na fun _ => List.toArray (p.toList.map fun i => vs.getD i Value.none)⟩
  refine wpAny_bind (seqEpoch_at na rfl ?_)
  refine wpAny_bind (listUpdate_at na rfl ?_ (Nat.zero_le _) (Nat.le_trans (Nat.le_of_eq hsz) (by rw [sizeLine_eq]; lia)))
  rw [hf]
  simp only [bne_self_eq_false, Bool.false_eq_true, if_false]
  exact wpAny_pure (q p _ ⟨sm.1, sm.2.1, sm.2.2⟩ (k.trans (kx_upd _)) (islist_of hc2) hs)
/-- sorted without a key -/
theorem hw_sorted {l : Addr} {vs : List Value} {key : Nat → Int} {T : Value} {Q : Value → Heap → Prop} (hl : h.IsList l vs.toArray) (h2 : 2 ≤ vs.length) (h64 : vs.length < 64)
    (hT : ∀ h', KX [] h h' → ∀ v ∈ vs, Looks (model prog w) h' (typeOf v) T) (hT1 : (T != Value.type "tuple") = true) (hT2 : (T == T) = true)
    (cmp : ∀ i j h', i < vs.length → j < vs.length → KX [] h h' → hw (model prog w) A.in1.in1 (keyLt' oneType' (vs.getD i .none) (vs.getD j .none)) (fun b h'' => b = klt key i j ∧ KX [] h' h'') h')
    (q : ∀ D p h', KX [] h h' → h.objs.size ≤ D → h'.IsList D (p.toList.map fun i => vs.getD i .none).toArray → SortOut key vs.length p → Q (.ref D) h') : hw (model prog w) A (call (.builtin "sorted") [.ref l]) Q h := by
  intro s e
  subst e
  refine Calls.call_function_entry kind_sorted plain_sorted entry_sorted (args_sorted1 _) ?_
  unfold Builtin.«sorted»
  refine wpAny_bind (m := checkCount "sorted" 1 1 _) (wpAny_pure ?_)
  refine wpAny_bind (collect_list hl ?_ (by rw [sizeLine_eq]; lia))
  refine wpAny_bind (wpAny_newList ?_ (by rw [sizeLine_eq]; lia))
  have hsz : ((s.heap.push (seqObj "list" #[] 0)).update s.heap.objs.size (Obj.mapSeq (· ++ vs.toArray))).objs.size = s.heap.objs.size + 1 := by
    rw [Heap.size_update, size_push']
  have hoL : (((s.heap.push (seqObj "list" #[] 0)).update s.heap.objs.size (Obj.mapSeq (· ++ vs.toArray))).push (seqObj "list" vs.toArray 0)).get? (s.heap.objs.size + 1) = some (seqObj "list" vs.toArray 0) := by
    rw [← hsz]; exact Heap.get?_push_size _ rfl
  have keep : KX [] s.heap (((s.heap.push (seqObj "list" #[] 0)).update s.heap.objs.size (Obj.mapSeq (· ++ vs.toArray))).push (seqObj "list" vs.toArray 0)) := KX.of_all (by rw [size_push', hsz]; lia) fun b o q => by
    have hlt : b < s.heap.objs.size := Heap.lt_size q
    rw [Heap.get?_push_ne _ _ _ (by rw [hsz]; exact Nat.ne_of_lt (Nat.lt_succ_of_lt hlt)), Heap.get?_update_ne _ _ _ _ (Nat.ne_of_lt hlt), Heap.get?_push_ne _ _ _ (Nat.ne_of_lt hlt)]
    exact q
  show wpAny _ _ _ _ _ { s with heap := ((s.heap.push (seqObj "list" #[] 0)).update s.heap.objs.size (Obj.mapSeq (· ++ vs.toArray))).push (seqObj "list" vs.toArray 0) }
  rw [hsz]
  generalize (((s.heap.push (seqObj "list" #[] 0)).update s.heap.objs.size (Obj.mapSeq (· ++ vs.toArray))).push (seqObj "list" vs.toArray 0)) = g at hoL keep ⊢
  have low : ∀ {h'}, KX [s.heap.objs.size + 1] g h' → KX [] s.heap h' := fun k => keep.below k fun b hb => by cases List.mem_singleton.mp hb; exact Nat.le_succ _
  refine wpAny_bind (wpAny_holding (wpAny_call_entry slot_list_sort ⟨_, hoL, rfl⟩ entry_list_sort ?body (args_list_sort _)))
  refine sort_plain (s := { s with heap := g }) hoL h2 h64 (fun h' k => hT h' (low k)) hT1 hT2 (fun i j h' hi hj k => cmp i j h' hi hj (low k)) fun p s' sm k L so => ⟨_, rfl, ?_⟩
  exact wpAny_pure ⟨_, rfl, ⟨sm.1, sm.2.1, sm.2.2⟩, q _ p _ (low k) (Nat.le_succ _) L so⟩
end
end

-- S3
section
open PySem PySem.W PyProof.Rows PySem.Calls
/-- all but lists stands -/
noncomputable def KL (h h' : Heap) : Prop := h.objs.size ≤ h'.objs.size ∧ ∀ b o, o.cls ≠ .type "list" → h.get? b = some o → h'.get? b = some o
theorem KL.of {h h' : Heap} (k : KX [] h h') : KL h h' := ⟨k.sz, fun b o _ e => k.all b o e⟩
theorem KL.upd {h h' : Heap} {a : Addr} {xs : Array Value} {n : Nat} (e : h.get? a = some (seqObj "list" xs n)) (k : KX [a] h h') : KL h h' := ⟨k.sz, fun b o hc ho => k.keep b o (fun hm => by
  cases List.mem_singleton.mp hm
  rw [e] at ho; cases ho; exact hc rfl) ho⟩
theorem zip_item {kA : Array Value} {vs : List Value} (hz : kA.size = vs.length) {i : Nat} (hi : i < vs.length) : kas_item (kA.zip vs.toArray) i = (kA.getD i .none, vs.getD i .none) := by
  have h1 : i < (kA.zip vs.toArray).size := by simp [hz, hi]
  have h2 : i < kA.size := by lia
  have e1 : (kA.zip vs.toArray).getD i (.none, .none) = (kA.zip vs.toArray)[i] := by
    unfold Array.getD; rw [dif_pos h1]; rfl
  have e2 : kA.getD i .none = kA[i] := by
    unfold Array.getD; rw [dif_pos h2]; rfl
  have e3 : vs.getD i .none = vs[i] := by simp [List.getD, hi]
  unfold kas_item
  rw [e1, e2, e3, Array.getElem_zip]
  simp
section
variable {prog : Program} {w : World} {A : Around} {h : Heap}
theorem sort_key {a : Addr} {f : Value} {vs : List Value} {n0 : Nat} {key : Nat → Int} {T : Value} {R : Nat → Value → Heap → Prop} {P : PySem.Fin → Shared → Prop} {E : Value → Shared → Prop} {s : Shared} (stab : ∀ i k h h', KL h h' → R i k h → R i k h')
    (ho : s.heap.get? a = some (seqObj "list" vs.toArray n0)) (h2 : 2 ≤ vs.length) (h64 : vs.length < 64)
    (turn : ∀ i v h', vs[i]? = some v → KX [a] s.heap h' → hw (model prog w) A (call f [v]) (fun k h'' => KX [] h' h'' ∧ R i k h'') h')
    (hT : ∀ i k h', i < vs.length → KX [a] s.heap h' → R i k h' → Looks (model prog w) h' (typeOf k) T) (hT1 : (T != Value.type "tuple") = true) (hT2 : (T == T) = true)
    (cmp : ∀ i j k k' h', i < vs.length → j < vs.length → KX [a] s.heap h' → R i k h' → R j k' h' → hw (model prog w) A (keyLt' oneType' k k') (fun b h'' => b = klt key i j ∧ KX [] h' h'') h')
    (q : ∀ p s', Sm s s' → KX [a] s.heap s'.heap → s'.heap.IsList a (p.toList.map fun i => vs.getD i .none).toArray → SortOut key vs.length p → P (.done (.ret .none)) s') : wpAny (model prog w) A (ksk_tree a f false) P E s := by
  have ha : a < s.heap.objs.size := Heap.lt_size ho
  obtain ⟨e1, ho1⟩ : ∃ e1, (s.heap.update a (Obj.mapSeq fun _ => (#[] : Array Value))).get? a = some (seqObj "list" #[] e1) := ⟨_, get?_update_seq ho fun _ => #[]⟩
  have k3 : KX [a] s.heap (((s.heap.update a (Obj.mapSeq fun _ => (#[] : Array Value))).push (seqObj "tuple" vs.toArray 0)).push (seqObj "list" #[] 0)) := ((kx_upd _).trans (KX.push _ _ _)).trans (KX.push _ _ _)
  have ho3 : (((s.heap.update a (Obj.mapSeq fun _ => (#[] : Array Value))).push (seqObj "tuple" vs.toArray 0)).push (seqObj "list" #[] 0)).get? a = some (seqObj "list" #[] e1) := Heap.get?_push_of_some _ (Heap.get?_push_of_some _ ho1)
  have hk3 : (((s.heap.update a (Obj.mapSeq fun _ => (#[] : Array Value))).push (seqObj "tuple" vs.toArray 0)).push (seqObj "list" #[] 0)).get? ((s.heap.update a (Obj.mapSeq fun _ => (#[] : Array Value))).push (seqObj "tuple" vs.toArray 0)).objs.size = some (seqObj "list" #[] 0) := Heap.get?_push_size _ rfl
  have hkS : s.heap.objs.size < ((s.heap.update a (Obj.mapSeq fun _ => (#[] : Array Value))).push (seqObj "tuple" vs.toArray 0)).objs.size := by rw [size_push', Heap.size_update]; exact Nat.lt_succ_self _
  unfold ksk_tree
  refine wpAny_bind (listItems_at ho rfl ?_)
  refine wpAny_bind (listUpdate_at ho rfl ?_ (by rw [List.size_toArray, sizeLine_eq]; lia) (Nat.zero_le _))
  refine wpAny_bind (seqEpoch_at ho1 rfl ?_)
  refine wpAny_bind (wpAny_newTuple ?_ (by show vs.length ≤ _; rw [sizeLine_eq]; lia))
  refine wpAny_bind (wpAny_newList ?_ (Nat.zero_le _))
  refine wpAny_holding ?_
  show wpAny (model prog w) A (ksk_rest a f false vs.toArray e1 (.ref ((s.heap.update a (Obj.mapSeq fun _ => (#[] : Array Value))).push (seqObj "tuple" vs.toArray 0)).objs.size)) P E { s with heap := ((s.heap.update a (Obj.mapSeq fun _ => #[])).push (seqObj "tuple" vs.toArray 0)).push (seqObj "list" #[] 0) }
  generalize ((s.heap.update a (Obj.mapSeq fun _ => (#[] : Array Value))).push (seqObj "tuple" vs.toArray 0)).push (seqObj "list" #[] 0) = g3 at k3 ho3 hk3 ⊢
  generalize ((s.heap.update a (Obj.mapSeq fun _ => (#[] : Array Value))).push (seqObj "tuple" vs.toArray 0)).objs.size = kS at hk3 hkS ⊢
  have hne : kS ≠ a := fun e => by subst e; exact Nat.lt_irrefl _ (Nat.lt_trans ha hkS)
  have up : ∀ {h1 h2}, KX [a] s.heap h1 → KX [kS] h1 h2 → KX [a] s.heap h2 := fun x y => x.above y fun b hb => .inl (by cases List.mem_singleton.mp hb; exact Nat.le_of_lt hkS)
  unfold ksk_rest
  refine wpAny_bind (wpAny_rule ?_)
  first
    | rw [List.forIn_toArray]
    | (rw [← Array.forIn_toList]; simp only [List.toList_toArray])
    | rw [← Array.forIn_toList]
  refine wpAny_bind (ksk_fold (fun i s' => ∃ kA e, Sm s s' ∧ KX [a] s.heap s'.heap ∧ s'.heap.get? kS = some (seqObj "list" kA e) ∧ s'.heap.get? a = some (seqObj "list" #[] e1) ∧ kA.size = i ∧ ∀ j, j < i → R j (kA.getD j .none) s'.heap) vs 0 _
    ⟨#[], 0, ⟨rfl, rfl, rfl⟩, k3, hk3, ho3, rfl, fun j hj => absurd hj (by lia)⟩ ?step ?done)
  case step =>
    rintro j x s' hx ⟨kA, e, sm, kx, nk, na, hz, hr⟩
    simp only [Nat.zero_add] at hz hr ⊢
    have hj : j < vs.length := (List.getElem?_eq_some_iff.mp hx).1
    refine wpAny_bind (wpAny_attempt (wpAny_mono (turn j x s'.heap hx kx s' rfl) (fun v s'' he => ?_) fun _ _ hF => hF.elim))
    obtain ⟨sm2, k2, r2⟩ := he
    try dsimp only
    have nk2 := k2.all _ _ nk
    have na2 := k2.all _ _ na
    obtain ⟨c2, hc2⟩ : ∃ c2, (s''.heap.update kS (Obj.mapSeq (·.push v))).get? kS = some (seqObj "list" (kA.push v) c2) := ⟨_, get?_update_seq nk2 (·.push v)⟩
    have k4 : KX [kS] s''.heap (s''.heap.update kS (Obj.mapSeq (·.push v))) := kx_upd _
    have kl := KL.upd nk2 k4
    refine wpAny_bind (listUpdate_at nk2 rfl ?_ (by rw [sizeLine_eq]; lia) (Nat.le_trans (Nat.le_of_eq (Array.size_push ..)) (by rw [sizeLine_eq]; lia)))
    refine wpAny_pure ⟨rfl, kA.push v, c2, (sm.trans sm2).trans ⟨rfl, rfl, rfl⟩, up (kx.trans k2.any) k4, hc2, k4.keep _ _ (fun hm => hne (List.mem_singleton.mp hm).symm) na2, by simp [hz], fun i hi => ?_⟩
    by_cases ei : i = j
    · subst ei
      have : (kA.push v).getD kA.size .none = v := by simp [Array.getD]
      rw [hz] at this
      rw [this]; exact stab _ _ _ _ kl r2
    · have : (kA.push v).getD i .none = kA.getD i .none := by
        have h1 : i < kA.size := by lia
        simp [Array.getD, h1, Array.getElem_push, Nat.lt_succ_of_lt h1]
      rw [this]
      exact stab _ _ _ _ kl (stab _ _ _ _ (KL.of k2) (hr i (by lia)))
  case done =>
    rintro s' ⟨kA, e, sm, kx, nk, na, hz, hr⟩
    simp only [Nat.zero_add] at hz hr
    try dsimp only
    refine wpAny_bind (listItems_at nk rfl ?_)
    unfold ksk_end
    dsimp only
    have hn2 : ¬ vs.toArray.size < 2 := by rw [List.size_toArray]; lia
    simp only [Bool.false_eq_true, if_false]
    rw [if_neg hn2, if_neg hn2]
    have hkl : kA.toList.length = vs.length := by rw [Array.length_toList]; exact hz
    have hkk : kA = kA.toList.toArray := by simp
    have hget : ∀ i, i < vs.length → (kas_item (kA.zip vs.toArray) i).1 = kA.getD i .none := fun i hi => by rw [zip_item hz hi]
    have hget2 : ∀ i, i < vs.length → (kas_item (kA.zip vs.toArray) i).2 = vs.getD i .none := fun i hi => by rw [zip_item hz hi]
    have kind : ∀ {Q : SortKind → Shared → Prop}, Q oneType' s' → wpAny (model prog w) A (keyKind' kA) Q E s' := by
      intro Q hq
      rw [hkk]
      refine kas_kind (by lia) (fun v hv => ?_) hT1 hT2 hq
      obtain ⟨i, hi⟩ := List.mem_iff_getElem?.mp hv
      have hil : i < kA.toList.length := (List.getElem?_eq_some_iff.mp hi).1
      have := hr i (by lia)
      have e : kA.getD i .none = v := by
        have h2 : i < kA.size := by rw [← Array.length_toList]; exact hil
        have := (List.getElem?_eq_some_iff.mp hi).2
        simp only [Array.getElem_toList] at this
        simp [Array.getD, h2, this]
      rw [e] at this
      exact hT i v _ (by lia) kx this
    refine wpAny_bind (kind ?_)
    have hzs : (kA.zip vs.toArray).size = vs.length := by simp [hz]
    have est : SortSt.mk' oneType' (kA.zip vs.toArray) #[] 7 none = kas_st oneType' (kA.zip vs.toArray) (List.toArray (List.range vs.length)) := by
      have e := kas_range (kA.zip vs.toArray)
      rw [hzs] at e
      show _ = SortSt.mk' oneType' ((List.toArray (List.range vs.length)).map (kas_item (kA.zip vs.toArray))) #[] 7 none
      rw [e]
    have run := sort_it (prog := prog) (w := w) (A := A) (E := E) (it := kA.zip vs.toArray) (key := key) (s := s') (I := fun h' => KX [a] s.heap h' ∧ h'.get? a = some (seqObj "list" #[] e1) ∧ h'.get? kS = some (seqObj "list" kA e) ∧ ∀ j, j < vs.length → R j (kA.getD j .none) h') h2 h64 ⟨kx, na, nk, hr⟩ fun i j h' hi hj ⟨k, o, o2, r⟩ => by
      rw [hget i hi, hget j hj]
      exact hw_mono (cmp i j _ _ h' hi hj k (r i hi) (r j hj)) fun b h'' ⟨e, k'⟩ => ⟨e, k.trans k'.any, k'.all _ _ o, k'.all _ _ o2, fun j hj => stab _ _ _ _ (KL.of k') (r j hj)⟩
    rw [← est] at run
    refine wpAny_bind (wpAny_mono run ?_ fun _ _ e => e)
    rintro ⟨⟨⟩, st'⟩ s2 ⟨p, sm2, ⟨k, na2, nk2, _⟩, hs, har, hf⟩
    dsimp only
    unfold ksk_tail
    dsimp only
    have hout : (arrOf st').map (·.2) = List.toArray (p.toList.map fun i => vs.getD i Value.none) := by
      apply Array.toList_inj.mp
      rw [har, Array.map_map, Array.toList_map]
      refine List.map_congr_left fun i hi => ?_
      exact hget2 i (List.mem_range.mp (hs.mem.mem_iff.mp hi))
    have hsz : (List.toArray (p.toList.map fun i => vs.getD i Value.none)).size = vs.length := by rw [List.size_toArray, List.length_map, Array.length_toList, hs.1.sz]
    have k5 : KX [kS] s2.heap (s2.heap.update kS (Obj.mapSeq fun _ => (#[] : Array Value))) := kx_upd _
    have na3 := k5.keep _ _ (fun hm => hne (List.mem_singleton.mp hm).symm) na2
    rw [hout]
    obtain ⟨c2, hc2⟩ : ∃ c2, ((s2.heap.update kS (Obj.mapSeq fun _ => (#[] : Array Value))).update a (Obj.mapSeq fun _ => List.toArray (p.toList.map fun i => vs.getD i Value.none))).get? a = some (seqObj "list" (List.toArray (p.toList.map fun i => vs.getD i Value.none)) c2) := ⟨_, get?_update_seq na3 fun _ => List.toArray (p.toList.map fun i => vs.getD i Value.none)⟩
    refine wpAny_bind (listUpdate_at nk2 rfl ?_ (by rw [hz, sizeLine_eq]; lia) (Nat.zero_le _))
    refine wpAny_bind (wpAny_letGo ?_)
    refine wpAny_bind (seqEpoch_at na3 rfl ?_)
    refine wpAny_bind (listUpdate_at na3 rfl ?_ (Nat.zero_le _) (Nat.le_trans (Nat.le_of_eq hsz) (by rw [sizeLine_eq]; lia)))
    rw [hf]
    simp only [bne_self_eq_false, Bool.false_eq_true, if_false]
    exact wpAny_pure (q p _ ((sm.trans sm2).trans ⟨rfl, rfl, rfl⟩) ((up k k5).trans (kx_upd _)) (islist_of hc2) hs)
/-- sorted by a key -/
theorem hw_sortedK {l C : Addr} {vs : List Value} {key : Nat → Int} {T : Value} {R : Nat → Value → Heap → Prop} {Q : Value → Heap → Prop} (stab : ∀ i k h h', KL h h' → R i k h → R i k h') (hl : h.IsList l vs.toArray) (h2 : 2 ≤ vs.length) (h64 : vs.length < 64)
    (turn : ∀ i v h', vs[i]? = some v → KX [] h h' → hw (model prog w) A.in1.in1 (call (.ref C) [v]) (fun k h'' => KX [] h' h'' ∧ R i k h'') h')
    (hT : ∀ i k h', i < vs.length → KX [] h h' → R i k h' → Looks (model prog w) h' (typeOf k) T) (hT1 : (T != Value.type "tuple") = true) (hT2 : (T == T) = true)
    (cmp : ∀ i j k k' h', i < vs.length → j < vs.length → KX [] h h' → R i k h' → R j k' h' → hw (model prog w) A.in1.in1 (keyLt' oneType' k k') (fun b h'' => b = klt key i j ∧ KX [] h' h'') h')
    (q : ∀ D p h', KX [] h h' → h.objs.size ≤ D → h'.IsList D (p.toList.map fun i => vs.getD i .none).toArray → SortOut key vs.length p → Q (.ref D) h') : hw (model prog w) A (call (.builtin "sorted") [.ref l] [(Str.ofString "key", .ref C)]) Q h := by
  intro s e
  subst e
  refine call_function_entry_kw kind_sorted plain_sorted entry_sorted (ksk_s1 _ _) ?_
  unfold Builtin.«sorted»
  refine wpAny_bind (m := checkCount "sorted" 1 1 _) (wpAny_pure ?_)
  refine wpAny_bind (collect_list hl ?_ (by rw [sizeLine_eq]; lia))
  refine wpAny_bind (wpAny_newList ?_ (by rw [sizeLine_eq]; lia))
  have hsz : ((s.heap.push (seqObj "list" #[] 0)).update s.heap.objs.size (Obj.mapSeq (· ++ vs.toArray))).objs.size = s.heap.objs.size + 1 := by
    rw [Heap.size_update, size_push']
  have hoL : (((s.heap.push (seqObj "list" #[] 0)).update s.heap.objs.size (Obj.mapSeq (· ++ vs.toArray))).push (seqObj "list" vs.toArray 0)).get? (s.heap.objs.size + 1) = some (seqObj "list" vs.toArray 0) := by
    rw [← hsz]; exact Heap.get?_push_size _ rfl
  have keep : KX [] s.heap (((s.heap.push (seqObj "list" #[] 0)).update s.heap.objs.size (Obj.mapSeq (· ++ vs.toArray))).push (seqObj "list" vs.toArray 0)) := KX.of_all (by rw [size_push', hsz]; lia) fun b o q => by
    have hlt : b < s.heap.objs.size := Heap.lt_size q
    rw [Heap.get?_push_ne _ _ _ (by rw [hsz]; exact Nat.ne_of_lt (Nat.lt_succ_of_lt hlt)), Heap.get?_update_ne _ _ _ _ (Nat.ne_of_lt hlt), Heap.get?_push_ne _ _ _ (Nat.ne_of_lt hlt)]
    exact q
  show wpAny _ _ _ _ _ { s with heap := ((s.heap.push (seqObj "list" #[] 0)).update s.heap.objs.size (Obj.mapSeq (· ++ vs.toArray))).push (seqObj "list" vs.toArray 0) }
  rw [hsz]
  generalize (((s.heap.push (seqObj "list" #[] 0)).update s.heap.objs.size (Obj.mapSeq (· ++ vs.toArray))).push (seqObj "list" vs.toArray 0)) = g at hoL keep ⊢
  have low : ∀ {h'}, KX [s.heap.objs.size + 1] g h' → KX [] s.heap h' := fun k => keep.below k fun b hb => by cases List.mem_singleton.mp hb; exact Nat.le_succ _
  refine wpAny_bind (wpAny_holding (wpAny_call_entry_kw slot_list_sort ⟨_, hoL, rfl⟩ entry_list_sort ?body (ksk_l1 _ _)))
  have ht' := ksk_t1 C (s.heap.objs.size + 1)
  show wpAny (model prog w) A.in1.in1 (Builtin.«list.sort» ⟨[.ref (s.heap.objs.size + 1)], [(Str.ofString "key", .ref C)]⟩) _ _ _
  rw [ht']
  refine sort_key (s := { s with heap := g }) stab hoL h2 h64 (fun i v h' e k => turn i v h' e (low k)) (fun i k h' hi kx r => hT i k h' hi (low kx) r) hT1 hT2 (fun i j k k' h' hi hj kx => cmp i j k k' h' hi hj (low kx)) fun p s' sm k L so => ⟨_, rfl, ?_⟩
  exact wpAny_pure ⟨_, rfl, ⟨sm.1, sm.2.1, sm.2.2⟩, q _ p _ (low k) (Nat.le_succ _) L so⟩
end
end

-- S4
section
open PySem PySem.W PyProof.Rows PySem.Calls
open PySem.SeqAt PySem.MeetsSeq PySem.MeetsSeq2 PySem.MeetsSeq3 PySem.SeqRoads2
open PySem.AutoSeq1 (wpAny_loadPart')
section
variable (l b : Addr) (items items2 : Array Value) (n n2 : Nat) (dd dd2 : Option Addr) (sl sl2 : Array (Option Value))
theorem lt_end (i : Nat) (h1 : items[i]? = none) (h2 : items2[i]? = none) (hsz : items.size = items2.size) : Meets (Builtin.«list.__eq__.loop» ⟨[.ref l, .ref b, rawInt i, rawInt 0], []⟩)
      (fun A R s => s.heap.get? l = some { cls := .type "list", dict := dd, data := .seq items n, slots := sl } ∧ s.heap.get? b = some { cls := .type "list", dict := dd2, data := .seq items2 n2, slots := sl2 } ∧
        R (.ok (.ret (.bool false))) s) := by
  intro prog w A R s h
  obtain ⟨hp, g, d, tk, os⟩ := s; obtain ⟨hl, hb, h⟩ := h
  wp_walk using wpAny_loadPart' hl, wpAny_loadPart' hb
  have hi1 : items[((i : Nat) : Int).toNat]? = none := by simpa using h1
  have hi2 : items2[((i : Nat) : Int).toNat]? = none := by simpa using h2
  rw [hi1, hi2]
  wp_walk using wpAny_loadPart' hl, wpAny_loadPart' hb
  show R (.ok (.ret (.bool (decide (items.size < items2.size))))) _
  rw [hsz]
  simpa using h
noncomputable abbrev Got (prog : Program) (w : World) (A : Around) (R : Result → Shared → Prop) : PySem.Fin → Shared → Prop := fun fin s' => match fin with | .done f => R (.ok f) s' | .again c' => c'.quiet = true ∧ codeAny (model prog w) A c' R s'
theorem lt_turn (prog : Program) (w : World) (A : Around) (R : Result → Shared → Prop) (s : Shared) (i : Nat) {x y : Int} {t u : Tok} (h1 : items[i]? = some (.int x t)) (h2 : items2[i]? = some (.int y u))
    (hl : s.heap.get? l = some { cls := .type "list", dict := dd, data := .seq items n, slots := sl }) (hb : s.heap.get? b = some { cls := .type "list", dict := dd2, data := .seq items2 n2, slots := sl2 })
    (h : x ≠ y → R (.ok (.ret (.bool (decide (x < y))))) s) (k : x = y → wpAny (model prog w) A.in1 (Builtin.«list.__eq__.loop» ⟨[.ref l, .ref b, rawInt ((i + 1 : Nat) : Int), rawInt 0], []⟩) (Got prog w A R) (fun e s' => R (.error e) s') s) :
    wpAny (model prog w) A.in1 (Builtin.«list.__eq__.loop» ⟨[.ref l, .ref b, rawInt i, rawInt 0], []⟩) (Got prog w A R) (fun e s' => R (.error e) s') s := by
  obtain ⟨hp, g, d, tk, os⟩ := s
  wp_walk using wpAny_loadPart' hl, wpAny_loadPart' hb
  have hi1 : items[((i : Nat) : Int).toNat]? = some (.int x t) := by simpa using h1
  have hi2 : items2[((i : Nat) : Int).toNat]? = some (.int y u) := by simpa using h2
  rw [hi1, hi2]
  refine wpAny_bind (wpAny_eqBool_int ?_)
  by_cases e : x = y
  · subst e
    have hc : ((i : Int) + 1) = ((i + 1 : Nat) : Int) := by push_cast; rfl
    rw [beq_self_eq_true]
    wp_walk
    rw [hc]
    exact ⟨plainId_quiet plain_eq_loop _, codeAny_builtin entry_eq_loop (by
        rw [Around.under_plainId plain_eq_loop _]
        exact k rfl)⟩
  · rw [beq_eq_false_iff_ne.mpr e]
    wp_walk using wpAny_loadPart' hl, wpAny_loadPart' hb
    rw [hi1, hi2]
    refine wpAny_bind (lt_int (a := x) (b := y) (t := t) (u := u) ?_)
    wp_walk
    exact h e
theorem lt_lists (prog : Program) (w : World) (A : Around) (R : Result → Shared → Prop) (s : Shared) {a1 a2 b1 b2 : Int} {t1 t2 u1 u2 : Tok}
    (hl : s.heap.get? l = some { cls := .type "list", dict := dd, data := .seq #[.int a1 t1, .int a2 t2] n, slots := sl }) (hb : s.heap.get? b = some { cls := .type "list", dict := dd2, data := .seq #[.int b1 u1, .int b2 u2] n2, slots := sl2 })
    (h : R (.ok (.ret (.bool (decide (a1 < b1 ∨ (a1 = b1 ∧ a2 < b2)))))) s) :
    wpAny (model prog w) A.in1 (Builtin.«list.__eq__.loop» ⟨[.ref l, .ref b, rawInt ((0 : Nat) : Int), rawInt 0], []⟩) (Got prog w A R) (fun e s' => R (.error e) s') s := by
  refine lt_turn l b _ _ n n2 dd dd2 sl sl2 prog w A R s 0 (x := a1) (y := b1) (by rfl) (by rfl) hl hb (fun e => ?_) fun e => ?_
  · have : (a1 < b1 ∨ (a1 = b1 ∧ a2 < b2)) ↔ a1 < b1 := by constructor <;> intro h <;> lia
    rw [decide_eq_decide.mpr this] at h; exact h
  · refine lt_turn l b _ _ n n2 dd dd2 sl sl2 prog w A R s 1 (x := a2) (y := b2) (by rfl) (by rfl) hl hb (fun e' => ?_) fun e' => ?_
    · have : (a1 < b1 ∨ (a1 = b1 ∧ a2 < b2)) ↔ a2 < b2 := by constructor <;> intro h <;> lia
      rw [decide_eq_decide.mpr this] at h; exact h
    · have : ¬ (a1 < b1 ∨ (a1 = b1 ∧ a2 < b2)) := by lia
      rw [decide_eq_false this] at h
      exact lt_end l b _ _ n n2 dd dd2 sl sl2 2 (by rfl) (by rfl) (by rfl) prog w A R s ⟨hl, hb, h⟩
end
section
variable {prog : Program} {w : World} {A : Around} {h : Heap}
theorem body_lt {l b : Addr} {a1 a2 b1 b2 : Int} {t1 t2 u1 u2 : Tok} {n n2 : Nat} {dd dd2 : Option Addr} {sl sl2 : Array (Option Value)} {R : Result → Shared → Prop} {s : Shared}
    (hl : s.heap.get? l = some { cls := .type "list", dict := dd, data := .seq #[.int a1 t1, .int a2 t2] n, slots := sl }) (hb : s.heap.get? b = some { cls := .type "list", dict := dd2, data := .seq #[.int b1 u1, .int b2 u2] n2, slots := sl2 })
    (h : R (.ok (.ret (.bool (decide (a1 < b1 ∨ (a1 = b1 ∧ a2 < b2)))))) s) :
    wpAny (model prog w) A.in1 (Builtin.«list.__lt__» ⟨[.ref l, .ref b], []⟩) (Got prog w A R) (fun e s' => R (.error e) s') s := by
  obtain ⟨hp, g, d, tk, os⟩ := s
  unfold Builtin.«list.__lt__»
  have f3 := AutoSeq1.sub_list_list
  wp_walk using wpAny_loadPart' hl, wpAny_loadPart' hb
  exact ⟨plainId_quiet plain_eq_loop _, codeAny_builtin entry_eq_loop (by
        rw [Around.under_plainId plain_eq_loop _]
        exact lt_lists l b n n2 dd dd2 sl sl2 prog w A R _ hl hb h)⟩
theorem pair_of {l : Addr} {x y : Int} (L : IL h l [x, y]) : ∃ t u n dd sl, h.get? l = some { cls := .type "list", dict := dd, data := .seq #[.int x t, .int y u] n, slots := sl } := by
  obtain ⟨vs, ⟨⟨c, dd, dt, sl⟩, ho, hc, n, hd⟩, i⟩ := L
  simp only at hc hd
  subst hc hd
  cases i with | cons _ t r => cases r with | cons _ u r => cases r; exact ⟨t, u, n, dd, sl, ho⟩
theorem code_lt {l b : Addr} {a1 a2 b1 b2 : Int} {R : Result → Shared → Prop} {s : Shared} (hl : IL s.heap l [a1, a2]) (hb : IL s.heap b [b1, b2]) (h : R (.ok (.ret (.bool (decide (a1 < b1 ∨ (a1 = b1 ∧ a2 < b2)))))) s) :
    codeAny (model prog w) A (.call (.builtin "list.__lt__") ⟨[.ref l, .ref b], []⟩) R s := by
  obtain ⟨t1, t2, n1, dd1, sl1, ho1⟩ := pair_of hl
  obtain ⟨u1, u2, n2, dd2, sl2, ho2⟩ := pair_of hb
  exact codeAny_call_builtin F.slot_list_lt.plain F.entry_list_lt (F.slot_list_lt.check _ _ _ _ _ _ _ _ ⟨_, ho1, rfl⟩ (F.args_list_lt_2 _ _) (body_lt ho1 ho2 h))
theorem paired_left {α β : Type} {F : α → β → Prop} {as : List α} {bs : List β} (p : Paired F as bs) {i : Nat} {a : α} (e : as[i]? = some a) : ∃ b, bs[i]? = some b ∧ F a b := by
  induction p generalizing i with
  | nil => cases e
  | cons x r ih => cases i with
    | zero => cases e; exact ⟨_, rfl, x⟩
    | succ i => exact ih (i := i) e
theorem hw_ltPair {l b : Addr} {a1 a2 b1 b2 : Int} {Q : Bool → Heap → Prop} {n : Nat} (hu : A.units < cLine) (hl : IL h l [a1, a2]) (hb : IL h b [b1, b2]) (q : Q (decide (a1 < b1 ∨ (a1 = b1 ∧ a2 < b2))) h) :
    hw (model prog w) A (keyLt' oneType' (.ref l) (.ref b)) Q h := by
  intro s e
  subst e
  obtain ⟨t1, t2, n1, dd1, sl1, ho1⟩ := pair_of hl
  rw [keyLt'_oneType, oneLt'_eq]
  simp only [if_true]
  refine wpAny_bind (wpAny_cRoomFor hu ?_)
  refine wpAny_bind (wpAny_callSpecialIfBound?_slot (name := "__lt__") (T := "list") ⟨_, ho1, rfl⟩ F.slot_list_lt (wpAny_call (code_lt hl hb ?_)))
  exact wpAny_truthy_bool ⟨Sm.refl s, q⟩
/-- sorted of pairs of ints -/
theorem hw_sortedPairs {R : Addr} {as : List Addr} {prs : List (Int × Int)} {key : Nat → Int} {Q : Value → Heap → Prop} {n : Nat} (OK : A.units + 2 < cLine) (hl : h.IsList R (as.map Value.ref).toArray) (hp : Paired (fun a p => IL h a [p.1, p.2]) as prs) (h2 : 2 ≤ as.length) (h64 : as.length < 64)
    (hk : ∀ i j p q, prs[i]? = some p → prs[j]? = some q → (klt key i j = decide (p.1 < q.1 ∨ (p.1 = q.1 ∧ p.2 < q.2))))
    (q : ∀ D p h', KX [] h h' → h.objs.size ≤ D → h'.IsList D (p.toList.map fun i => (as.map Value.ref).getD i .none).toArray → SortOut key as.length p → Q (.ref D) h') : hw (model prog w) A (call (.builtin "sorted") [.ref R]) Q h := by
  have get : ∀ i, i < as.length → ∃ a p, as[i]? = some a ∧ prs[i]? = some p ∧ IL h a [p.1, p.2] ∧ (as.map Value.ref).getD i .none = .ref a := fun i hi => by
    have hz : as[i]? = some as[i] := List.getElem?_eq_getElem hi
    obtain ⟨p, e, r⟩ := paired_left hp hz
    exact ⟨as[i], p, hz, e, r, by simp [List.getD, hi]⟩
  have hlen : (as.map Value.ref).length = as.length := List.length_map ..
  refine hw_sorted (T := .type "list") hl (by lia) (by lia) (fun h' k v hv => ?_) rfl rfl (fun i j h' hi hj k => ?_) fun D p h' k hD L so => q D p h' k hD L (hlen ▸ so)
  · obtain ⟨a, ha, rfl⟩ := List.mem_map.mp hv
    obtain ⟨i, hi⟩ := List.mem_iff_getElem?.mp ha
    obtain ⟨p, _, r⟩ := paired_left hp hi
    obtain ⟨t, u, n, dd, sl, ho⟩ := pair_of (r.call k)
    exact (Looks.ld ho).andThen .now
  · obtain ⟨a, p, e1, e2, r1, e3⟩ := get i (by lia)
    obtain ⟨b, p', e4, e5, r2, e6⟩ := get j (by lia)
    rw [e3, e6, hk i j p p' e2 e5]
    exact hw_ltPair (n := 0) OK (r1.call k) (r2.call k) ⟨rfl, KX.refl _ _⟩
end
end

-- F1
section
open PySem PySem.W PyProof.Rows PySem.Calls
section
variable {prog : Program} {w : World} {A : Around} {h : Heap}
/-! ## leafs of law -/
theorem hw_sum {l : Addr} {ns : List Int} {Q : Value → Heap → Prop} (hA : A.handled = none) (hl : IL h l ns) (q : ∀ h' t, KX [] h h' → Q (.int ns.sum t) h') : hw (model prog w) A (call (.builtin "sum") [.ref l]) Q h := by
  obtain ⟨vs, hl, hi⟩ := hl
  obtain ⟨xs, hx⟩ := hi.allInts.items
  refine hw_ext fun s e => ?_
  subst e
  have hl' : s.heap.IsList l (intItems xs) := hx ▸ hl
  refine sum_intListG hA hl' fun h' tk t' hk => ?_
  have e1 : ns = xs.toList.map (·.1) := by
    rw [← nums_intItems, ← hx]
    exact (show numsOf vs.toArray.toList = ns from hi.numsOf).symm
  have e2 : preSum (numAt xs) xs.size = ns.sum := by
    rw [preSum_eq, List.take_of_length_le (by simp), e1]
  rw [e2]
  exact ⟨⟨rfl, rfl, rfl⟩, fun sz => q h' t' (KX.of_all sz hk)⟩
theorem hw_max {l : Addr} {ns : List Int} {Q : Value → Heap → Prop} (hA : A.handled = none) (hl : IL h l ns) (hne : 0 < ns.length) (q : ∀ h' M t, KX [] h h' → M ∈ ns → (∀ a ∈ ns, a ≤ M) → Q (.int M t) h') : hw (model prog w) A (call (.builtin "max") [.ref l]) Q h := by
  obtain ⟨vs, hl, hi⟩ := hl
  obtain ⟨xs, hx⟩ := hi.allInts.items
  refine hw_ext fun s e => ?_
  subst e
  have hl' : s.heap.IsList l (intItems xs) := hx ▸ hl
  have e1 : xs.toList.map (·.1) = ns := by
    rw [← nums_intItems, ← hx]
    exact (show numsOf vs.toArray.toList = ns from hi.numsOf)
  have hsz : 0 < xs.size := by rw [← e1] at hne; simpa using hne
  refine max_intList hA hl' hsz fun v h' tk hv hk => ?_
  obtain ⟨t, rfl⟩ := intItems_at hv
  obtain ⟨h1, h2⟩ := argBest_gt (numAt xs) (xs.size - 1)
  refine ⟨⟨rfl, rfl, rfl⟩, fun sz => q h' _ t (KX.of_all sz hk) ?_ fun a ha => ?_⟩
  · rw [← e1, numAt_eq]; exact getD_mem (by rw [List.length_map, Array.length_toList]; lia)
  · rw [← e1] at ha
    obtain ⟨j, hj, rfl⟩ := mem_getD ha
    rw [List.length_map, Array.length_toList] at hj
    rw [← numAt_eq]; exact h2 j (by lia)
theorem hw_chr {i : Int} {t : Tok} {Q : Value → Heap → Prop} (h0 : 0 ≤ i) (h1 : i ≤ 1114111) (q : ∀ t, Q (.str (tx [i.toNat]) t) h) : hw (model prog w) A (call (.builtin "chr") [.int i t]) Q h := fun s e => by
  subst e
  exact chr_of_range h0 h1 ⟨⟨rfl, rfl, rfl⟩, q _⟩
theorem hw_ilPick {value slice : Expr} {l sl : Addr} {ns : List Int} {vl vu vs : Value} {lo hi st : Option Int} {ops : List Value} {Q : Value → Heap → Prop} (hl : IL h l ns) (hs : h.IsSliceOf sl vl vu vs) (pl : IsPart vl lo) (pu : IsPart vu hi) (ps : IsPart vs st) (h0 : st ≠ some 0) (hsz : ns.length ≤ sizeLine)
    (q : ∀ a h', KX [] h h' → h.objs.size ≤ a → IL h' a (pickNums ns lo hi st) → Q (.ref a) h') (hsub : subscripted slice false (.ref l) (.ref sl) = operate ops (getItem (.ref l) (.ref sl))) : hw (model prog w) A (subscriptTail value slice (.ref l) (.ref sl)) Q h := by
  obtain ⟨vs', hl, hi'⟩ := hl
  exact hw_slice hl hs pl pu ps h0 (by rw [List.size_toArray, hi'.length]; exact hsz) (fun a h' k ha ha' L => q a h' k ha ⟨_, by rw [Array.toArray_toList]; exact L, hi'.pick lo hi st⟩) hsub
theorem hw_bytesC {x : List UInt8} {k : Nat} {p : Pos} {env : Env} {Q : Value → Heap → Prop} (q : ∀ t, Q (.bytes x.toArray t) h) : hw (model prog w) A (eval (.Constant (.bytes x) k p) env) Q h := fun s e => by
  subst e
  have : ∀ (Q' : Value → Shared → Prop) (E : Value → Shared → Prop), Q' (.bytes x.toArray s.toks) { s with toks := s.toks + 1 } → wpAny (model prog w) A (eval (.Constant (.bytes x) k p) env) Q' E s := fun Q' E h _ _ _ => h
  exact this _ _ ⟨⟨rfl, rfl, rfl⟩, q _⟩
/-! ## data -/
/-- a value that reads as data -/
noncomputable def Rd (h : Heap) (v : Value) (d : PyData) : Prop := ∃ as, Reads h v d as
theorem reads_all {h : Heap} {vs : List Value} {ds : List PyData} (p : Paired (Rd h) vs ds) : ∃ bs, ReadsAll h vs ds bs := by
  induction p with
  | nil => exact ⟨_, .nil⟩
  | cons x r ih => exact x.elim fun _ x => ih.elim fun _ z => ⟨_, .cons x z⟩
theorem rd_list {h : Heap} {a : Addr} {vs : List Value} {ds : List PyData} (hl : h.IsList a vs.toArray) (p : Paired (Rd h) vs ds) : Rd h (.ref a) (.list ds) := by
  obtain ⟨o, ho, hc, n, hd⟩ := hl
  obtain ⟨bs, z⟩ := reads_all p
  exact ⟨_, Reads.list ho hc hd z⟩
theorem rd_il {h : Heap} {a : Addr} {ns : List Int} (x : IL h a ns) : Rd h (.ref a) (.list (ns.map PyData.int)) := ⟨_, x.reads⟩
theorem paired_map {α β γ : Type} {F : α → β → Prop} {G : γ → β → Prop} (f : α → γ) (hf : ∀ a b, F a b → G (f a) b) {l : List α} {m : List β} (p : Paired F l m) : Paired G (l.map f) m := by
  induction p with
  | nil => exact .nil
  | cons x r ih => exact .cons (hf _ _ x) ih
theorem paired_mapR {α β γ : Type} {F : α → β → Prop} {G : α → γ → Prop} (f : β → γ) (hf : ∀ a b, F a b → G a (f b)) {l : List α} {m : List β} (p : Paired F l m) : Paired G l (m.map f) := by
  induction p with
  | nil => exact .nil
  | cons x r ih => exact .cons (hf _ _ x) ih
theorem paired_turn {α β γ : Type} {F : α → β → Prop} {G : β → γ → Prop} (f : α → γ) (hf : ∀ a b, F a b → G b (f a)) {l : List α} {m : List β} (p : Paired F l m) : Paired G m (l.map f) := by
  induction p with
  | nil => exact .nil
  | cons x r ih => exact .cons (hf _ _ x) ih
noncomputable def LD (rows : List (List Int)) : PyData := .list (rows.map fun r => PyData.list (r.map PyData.int))
theorem rd_ll {h : Heap} {R : Addr} {as : List Addr} {rows : List (List Int)} (hl : h.IsList R (as.map Value.ref).toArray) (p : Paired (fun a r => IL h a r) as rows) : Rd h (.ref R) (LD rows) :=
  rd_list hl (paired_map Value.ref (fun _ _ x => x) (paired_mapR _ (fun _ _ x => rd_il x) p))
theorem canLay_lists : ∀ rows : List (List Int), PyData.canLayAll0 (rows.map fun r => PyData.list (r.map PyData.int)) = true
  | [] => rfl
  | r :: rs => by simp only [List.map_cons, PyData.canLayAll0, PyData.canLay0, canLay_ints r, canLay_lists rs, Bool.and_self]
theorem depth_lists : ∀ rows : List (List Int), PyData.depthAll (rows.map fun r => PyData.list (r.map PyData.int)) ≤ 2
  | [] => by simp [PyData.depthAll]
  | r :: rs => by simp only [List.map_cons, PyData.depthAll]; have := depth_lists rs; have := depth_intl r; lia
theorem canLay_ld (rows : List (List Int)) : (LD rows).canLay0 = true := by simp only [LD, PyData.canLay0, canLay_lists]
theorem depth_ld (rows : List (List Int)) : (LD rows).depth ≤ 3 := by simp only [LD, PyData.depth]; have := depth_lists rows; lia
/-- a comparison of like data -/
theorem hw_neSame {a b : Value} {d : PyData} {n : Nat} {Q : Value → Heap → Prop} (OK : Ok A (n + 1)) (ra : Rd h a d) (rb : Rd h b d) (hc : d.canLay0 = true) (hd : d.depth ≤ 8) (q : Q (.bool false) h) : hw (model prog w) A (compareOp .NotEq a b) Q h := by
  obtain ⟨_, ra⟩ := ra
  obtain ⟨_, rb⟩ := rb
  refine hw_ne_data OK ra rb hc hc (by rw [Nat.min_self]; lia) ?_
  rw [PySem.SeqAt.eqv_refl d hc]; exact q
end
end

-- F2
section
open PySem PySem.W PyProof.Rows PySem.Calls
/-! ## law's frame -/
noncomputable def lawSt (i : Nat) : Stmt := (fbody (fstmt 29)).getD i (.Pass ⟨0, 0, 0, 0⟩)
noncomputable def lawSc : Scope := { kind := .function, names := [("script", .cell), ("drawn", .local), ("numbers", .cell), ("digits", .cell), ("places", .local), ("rows", .cell), ("octets", .local), ("written", .local), ("key", .cell), ("order", .cell), ("laid", .cell), ("last", .local), ("range", .globalImplicit), ("len", .globalImplicit), ("cmp_to_key", .globalImplicit), ("_law_order", .globalImplicit), ("sorted", .globalImplicit), ("zip", .globalImplicit), ("reduce", .globalImplicit)], isGenerator := false, isCoroutine := false, more := (fscope (fstmt 29)).more }
theorem lawSc_eq : fscope (fstmt 29) = lawSc := by rfl
noncomputable def lawEnv (b : Nat) : Env := { scope := lawSc, locals := b, globals := 3, cells := [("laid", b + 7), ("order", b + 6), ("key", b + 5), ("rows", b + 4), ("digits", b + 3), ("numbers", b + 2), ("script", b + 1)], qual := "law.<locals>.", func := some 164, code := .ref 163, frame := some b, builtins := 0 }
noncomputable abbrev lawW (b : Nat) : List Addr := [b, b + 7, b + 6, b + 5, b + 4, b + 3, b + 2, b + 1]
theorem lawW_eq (b : Nat) : b :: (cellsFrom (b + 1) (fscope (fstmt 29)).names []).map (·.2) = lawW b := by rfl
theorem law_body : fbody (fstmt 29) = [lawSt 0, lawSt 1, lawSt 2, lawSt 3, lawSt 4, lawSt 5, lawSt 6, lawSt 7, lawSt 8, lawSt 9, lawSt 10, lawSt 11, lawSt 12, lawSt 13, lawSt 14, lawSt 15] := by rfl
section
variable {mg mb : Str → Option Value} {X : List Addr} {B : Heap} {W : List Addr} {env : Env} {l : List (Str × Value)} {I : Heap → Prop} {h₁ h₄ h₅ : Heap}
/-- behind a comprehension: the frame as it was -/
theorem St.past {C : Addr} (S : St mg mb X B W env l I h₁) (k4 : KX [] h₁ h₄) (k5 : KX [C] h₄ h₅) (hC : h₁.objs.size ≤ C) : St mg mb X B W env l I h₅ :=
  S.skip (S.call k4) k4.sz k5 fun a ha => by cases List.mem_singleton.mp ha; exact hC
theorem KX.past {C : Addr} (k4 : KX [] h₁ h₄) (k5 : KX [C] h₄ h₅) (hC : h₁.objs.size ≤ C) : KX [] h₁ h₅ := k4.below k5 fun a ha => by cases List.mem_singleton.mp ha; exact hC
theorem list_past {C acc : Addr} {xs : Array Value} (hl : h₄.IsList acc xs) (k5 : KX [C] h₄ h₅) (hne : C ≠ acc) : h₅.IsList acc xs := list_keep hl k5 fun hm => hne (List.mem_singleton.mp hm).symm
end
/-! ## rows: a list of lists of ints -/
noncomputable def Rws (h : Heap) (R : Addr) (as : List Addr) (rows : List (List Int)) : Prop := h.IsList R (as.map Value.ref).toArray ∧ Paired (fun a r => IL h a r) as rows
theorem Dep.rws (R : Addr) (as : List Addr) (rows : List (List Int)) : Dep (R :: as) (fun h => Rws h R as rows) := fun U hu _ _ k x =>
  ⟨list_keep x.1 k fun hm => hu _ hm (.head _), paired_keep k (fun a ha hm => hu a hm (.tail _ ha)) x.2⟩
theorem Rws.lt {h : Heap} {R : Addr} {as : List Addr} {rows : List (List Int)} (x : Rws h R as rows) : ∀ a ∈ R :: as, a < h.objs.size := fun a ha => (List.mem_cons.mp ha).elim (fun e => e ▸ list_lt x.1) (paired_lt x.2 a)
theorem Rws.call {h h' : Heap} {R : Addr} {as : List Addr} {rows : List (List Int)} (x : Rws h R as rows) (k : KX [] h h') : Rws h' R as rows := Dep.rws R as rows [] (fun _ hm => nomatch hm) h h' k x
theorem paired_len {α β : Type} {F : α → β → Prop} {l : List α} {m : List β} (p : Paired F l m) : l.length = m.length := p.length
theorem Rws.len {h : Heap} {R : Addr} {as : List Addr} {rows : List (List Int)} (x : Rws h R as rows) : as.length = rows.length := paired_len x.2
theorem Rws.at {h : Heap} {R : Addr} {as : List Addr} {rows : List (List Int)} (x : Rws h R as rows) {i : Nat} (hi : i < rows.length) : ∃ a, as[i]? = some a ∧ IL h a (rows.getD i []) ∧ (as.map Value.ref)[i]? = some (.ref a) := by
  obtain ⟨a, e, r⟩ := paired_get x.2 (List.getElem?_eq_getElem hi)
  exact ⟨a, e, by simpa [List.getD, hi] using r, by simp [e]⟩
theorem paired_rows {h : Heap} {f : Nat → List Int} {is : List Nat} {as : List Addr} (p : Paired (fun i a => IL h a (f i)) is as) : Paired (fun a r => IL h a r) as (is.map f) := paired_turn f (fun _ _ x => x) p
theorem map_getD' {α β : Type} (f : α → β) (d : α) (xs : List α) : (List.range xs.length).map (fun k => f (xs.getD k d)) = xs.map f := by
  apply List.ext_getElem
  · simp
  · intro i h1 h2
    simp at h1
    simp [List.getD, h1]
noncomputable def rowsOf (ds : List Int) : List (List Int) := (List.range ds.length).map fun (i : Nat) => rowOf (digitsOf (ds.getD i 0)) i
noncomputable def RG (h : Heap) (a : Addr) (n : Nat) : Prop := ∃ t u v, IsRange h a 0 n 1 t u v
theorem Dep.rg (a : Addr) (n : Nat) : Dep [a] (fun h => RG h a n) := fun U hu _ _ k ⟨t, u, v, x⟩ => ⟨t, u, v, k.keep _ _ (fun hm => hu a hm (.head _)) x⟩
theorem RG.lt {h : Heap} {a : Addr} {n : Nat} (x : RG h a n) : a < h.objs.size := let ⟨_, _, _, x⟩ := x; Heap.lt_size x
theorem paired_someints {is : List Nat} {ys : List Value} (p : Paired (fun _ v => ∃ x t, v = Value.int x t) is ys) : ∃ ns, IntsAre ys ns ∧ ns.length = is.length := by
  induction p with
  | nil => exact ⟨[], .nil, rfl⟩
  | cons x r ih => exact ih.elim fun ns y => x.elim fun z x => x.elim fun t e => ⟨z :: ns, e ▸ .cons _ _ y.1, congrArg Nat.succ y.2⟩
end

-- F3
section
open PySem PySem.W PyProof.Rows PySem.Calls
section
variable {prog : Program} {w : World} {A : Around} {mg mb : Str → Option Value} {X : List Addr} {B : Heap} {I : Heap → Prop} {h : Heap} {b : Nat}

noncomputable def ownDrawn : List Int := [191, 0, 193, 189, 12291, 2, 206158430224]
theorem law1 {ns : List Int} {Q : Flow → Heap → Prop} {n : Nat} (OK : Ok A (n + 1)) (f0 : ∀ h, I h → IL h 165 ns) (hn : ns.length ≤ 63) (S : St mg mb X B (lawW b) (lawEnv b) [("script", .ref 165)] I h)
    (q : ∀ h' dr ds, 7 ≤ ds.length → ds.length ≤ 11 → h.objs.size ≤ dr → St mg mb X B (lawW b) (lawEnv b) [("drawn", .ref dr), ("script", .ref 165)] (fun h => IL h dr ds ∧ I h) h' → Q .next h') :
    hw (model prog w) A (exec (lawSt 0) (lawEnv b)) Q h := by
  have hsz : ns.length ≤ sizeLine := by simp only [sizeLine]; lia
  have S0 := S
  have S := S.rebase []
  refine hw_Assign ?_ rfl
  refine hw_BinOp ?_
  refine hw_ListComp rfl rfl rfl ?_ (fun _ => rfl)
  repeat' walk_at "e"
  intro sl h2 k2 hsl hsl' Sl
  have S := S.call k2
  refine hw_ilTo (f0 _ S.imm) Sl (by decide) hsz (fun a h3 k3 ha L3 => ?_) rfl
  have S := S.call k3
  have ll : (ns.take (4 : Int).toNat).length ≤ 4 := by rw [List.length_take]; exact Nat.min_le_left _ _
  generalize ns.take (4 : Int).toNat = four at L3 ll
  repeat' walk_at "e"
  refine hw_ilLen L3 (by lia) fun _ => ?_
  repeat' walk_at "e"
  refine hw_range fun r h4 _ _ _ k4 hr hr' R => ?_
  have S := S.call k4
  refine hw_iter_range R (by lia) fun it h₃ k3 hi hi' R3 => ?_
  refine hs_mapV [("script", .ref 165)] (fun _ => true) (fun _ v => ∃ x t, v = .int x t) OK.hd S rfl rfl rfl rfl rfl (by walk_at "cl") (by walk_at "lc") itr_range ⟨Nat.zero_le _, R3⟩ k3 (fun a ha => by cases List.mem_singleton.mp ha; exact hi') (by simp only [sizeLine]; lia) (fun a ha => by cases List.mem_singleton.mp ha; exact hi) ?turn ?fin
  case turn =>
    rintro C i v h4 k4 hi4 ⟨t, rfl⟩ S
    refine ⟨rfl, ?_⟩
    repeat' walk_at "e"
    intro sl h5 k5 hsl hsl' Sl
    have S := S.call k5
    refine hw_ilPick (f0 _ S.imm) Sl (.int _ _) .none (.int _ _) (by decide) hsz (fun a h6 k6 ha L6 => ?_) rfl
    have S := S.call k6
    repeat' walk_at "e"
    refine hw_sum OK.hd L6 fun h7 t k7 => ?_
    exact ⟨S.base.trans k7, _, _, rfl⟩
  case fin =>
    intro C acc ys h4 k4 hC hac hne hl hm pr
    with_reducible refine useC_none ?_
    intro h5 k5
    rw [filter_true] at pr
    obtain ⟨n4, iy, ln⟩ := paired_someints pr
    rw [List.length_range] at ln
    have S := S.past k4 k5 hC
    have L5 : IL h5 acc n4 := ⟨ys, list_past hl k5 hne, iy⟩
    repeat' walk_at "e"
    refine hw_pow (by decide) (by decide) (by decide) fun _ => ?_
    repeat' walk_at "e"
    refine hw_mul (.of_right (by decide)) fun _ => ?_
    repeat' walk_at "e"
    refine hw_ilNew (ns := ownDrawn) (.cons _ _ (.cons _ _ (.cons _ _ (.cons _ _ (.cons _ _ (.cons _ _ (.cons _ _ .nil))))))) (by decide) fun a6 h6 k6 ha6 L6 => ?_
    have S := S.call k6
    refine hw_ilAdd (L5.call k6) L6 (by have : ownDrawn.length = 7 := rfl; simp only [sizeLine]; lia) fun a7 h7 k7 ha7 L7 => ?_
    have hlo := Nat.le_trans S.base.sz ha7
    have S := S.newIL k7 ha7 L7
    have ln7 : (n4 ++ ownDrawn).length = n4.length + 7 := by rw [List.length_append]; rfl
    repeat' walk_at "e"
    rename_i S
    exact q _ _ _ (by lia) (by lia) hlo (S0.unbase S fun _ hm => nomatch hm)

end
end

-- F4
section
open PySem PySem.W PyProof.Rows PySem.Calls
section
variable {prog : Program} {w : World} {A : Around} {mg mb : Str → Option Value} {X : List Addr} {B : Heap} {I : Heap → Prop} {h : Heap} {b : Nat}

theorem law2 {dr : Addr} {ds : List Int} {Q : Flow → Heap → Prop} {n : Nat} (OK : Ok A (n + 2)) (f1 : ∀ h, I h → IL h dr ds) (hn : ds.length ≤ 11) (S : St mg mb X B (lawW b) (lawEnv b) [("drawn", .ref dr), ("script", .ref 165)] I h)
    (q : ∀ h' nu dg gs, h.objs.size ≤ nu → (∀ a ∈ dg :: gs, h.objs.size ≤ a) → St mg mb X B (lawW b) (lawEnv b) [("digits", .ref dg), ("numbers", .ref nu), ("drawn", .ref dr), ("script", .ref 165)] (fun h => Rws h dg gs (ds.map digitsOf) ∧ IL h nu (ds.map numOf) ∧ I h) h' → Q .next h') :
    hw (model prog w) A (exec (lawSt 1) (lawEnv b)) Q h := by
  have S0 := S
  have S := S.rebase []
  refine hw_two OK.hd ?_ rfl rfl rfl rfl
  refine hw_ListComp rfl rfl rfl ?_ (fun _ => rfl)
  repeat' walk_at "e"
  obtain ⟨vs, hl, hi⟩ := f1 _ S.imm
  refine hw_iter_list hl fun it h2 k2 hit hne hlt I2 L2 => ?_
  have T := itr_ints (prog := prog) (w := w) hne hi
  refine hs_mapV [] (fun _ => true) (fun i v => ∃ t, v = .int (numOf (ds.getD i 0)) t) OK.hd S rfl rfl rfl rfl rfl (by walk_at "cl") (by walk_at "lc") T ⟨I2, L2⟩ k2 (LI.lt ⟨I2, L2⟩) (by simp only [sizeLine]; lia) (fun a ha => by cases List.mem_singleton.mp ha; exact hit) ?turn ?fin
  case turn =>
    rintro C i v h4 k4 hi4 ⟨t, rfl⟩ S
    refine ⟨rfl, ?_⟩
    repeat' walk_at "e"
    refine hw_pow (by decide) (by decide) (by decide) fun _ => ?_
    refine hw_mod (by decide) fun _ => ?_
    exact ⟨S.base, _, rfl⟩
  case fin =>
    intro C nu ys h4 k4 hC hnu hneC hl4 hm pr
    with_reducible refine useC_none ?_
    intro h5 k5
    rw [filter_true] at pr
    have iy := paired_ints pr
    rw [map_getD] at iy
    have L5 : IL h5 nu (ds.map numOf) := ⟨ys, list_past hl4 k5 hneC, iy⟩
    have hnu' := Nat.le_trans S.base.sz hnu
    have S := (S.past k4 k5 hC).add L5 (Dep.il nu _) fun a ha => by cases List.mem_singleton.mp ha; exact ⟨L5.lt, S.new hnu⟩
    refine hw_ListComp rfl rfl rfl ?_ (fun _ => rfl)
    repeat' walk_at "e"
    obtain ⟨vs, hl, hi⟩ := f1 _ S.imm.2
    refine hw_iter_list hl fun it h2 k2 hit hne hlt I2 L2 => ?_
    have T := itr_ints (prog := prog) (w := w) hne hi
    refine hs_mapA [] (fun i a h => IL h a (digitsOf (ds.getD i 0))) (fun i a => Dep.il a _) OK.hd S rfl rfl rfl rfl rfl (by walk_at "cl") (by walk_at "lc") T ⟨I2, L2⟩ k2 (LI.lt ⟨I2, L2⟩) (by simp only [sizeLine]; lia) (fun a ha => by cases List.mem_singleton.mp ha; exact hit) ?turn2 ?fin2
    case turn2 =>
      rintro C i v h4 k4 hi4 ⟨t, rfl⟩ S
      repeat' walk_at "e"
      refine ⟨keep_tab S.g 13 rfl, ?_⟩
      refine lawDigits (n := n) OK S.g fun h6 a k6 ha L6 => ?_
      exact ⟨S.base.trans k6, a, rfl, ha, L6⟩
    case fin2 =>
      intro C dg gs h4 k4 hC hdg hneC hl4 hm hgs pr
      with_reducible refine useC_none ?_
      intro h5 k5
      have pr' := paired_rows pr
      rw [map_getD' digitsOf 0] at pr'
      have R5 : Rws h5 dg gs (ds.map digitsOf) := ⟨list_past hl4 k5 hneC, paired_keep k5 (fun a ha hm => (hgs a ha).2 (List.mem_singleton.mp hm)) pr'⟩
      have hall : ∀ a ∈ dg :: gs, _ ≤ a := fun a ha => (List.mem_cons.mp ha).elim (fun e => e ▸ hdg) fun ha => (hgs a ha).1
      have hall' : ∀ a ∈ dg :: gs, h.objs.size ≤ a := fun a ha => Nat.le_trans S.base.sz (hall a ha)
      have S := (S.past k4 k5 hC).add R5 (Dep.rws dg gs _) fun a ha => ⟨R5.lt a ha, S.new (hall a ha)⟩
      intro h6 k6
      have S := S.call k6
      repeat' walk_at "e"
      rename_i S
      exact q _ _ _ _ hnu' hall' (S0.unbase S fun _ hm => nomatch hm)

end
end

-- F5
section
open PySem PySem.W PyProof.Rows PySem.Calls
section
variable {prog : Program} {w : World} {A : Around} {mg mb : Str → Option Value} {X : List Addr} {B : Heap} {I : Heap → Prop} {h : Heap} {b : Nat}

theorem law3 {dr nu dg : Addr} {gs : List Addr} {ds : List Int} {Q : Flow → Heap → Prop} {n : Nat} (OK : Ok A (n + 2)) (f1 : ∀ h, I h → IL h dr ds) (f2 : ∀ h, I h → Rws h dg gs (ds.map digitsOf)) (hn : ds.length ≤ 11) (S : St mg mb X B (lawW b) (lawEnv b) [("digits", .ref dg), ("numbers", .ref nu), ("drawn", .ref dr), ("script", .ref 165)] I h)
    (q : ∀ h' pl rw rs, h.objs.size ≤ pl → (∀ a ∈ rw :: rs, h.objs.size ≤ a) → St mg mb X B (lawW b) (lawEnv b) [("rows", .ref rw), ("places", .ref pl), ("digits", .ref dg), ("numbers", .ref nu), ("drawn", .ref dr), ("script", .ref 165)] (fun h => Rws h rw rs (rowsOf ds) ∧ RG h pl ds.length ∧ I h) h' → Q .next h') :
    hw (model prog w) A (exec (lawSt 2) (lawEnv b)) Q h := by
  have S0 := S
  have S := S.rebase []
  refine hw_two OK.hd ?_ rfl rfl rfl rfl
  repeat' walk_at "e"
  refine hw_ilLen (f1 _ S.imm) (by lia) fun _ => ?_
  repeat' walk_at "e"
  refine hw_range fun pl h2 _ _ _ k2 hpl hpl' R => ?_
  have hlo := Nat.le_trans S.base.sz hpl
  have S := (S.call k2).add (P := fun h => RG h pl ds.length) ⟨_, _, _, R⟩ (Dep.rg pl _) fun a ha => by cases List.mem_singleton.mp ha; exact ⟨hpl', S.new hpl⟩
  refine hw_ListComp rfl rfl rfl ?_ (fun _ => rfl)
  repeat' walk_at "e"
  refine hw_ilLen (f1 _ S.imm.2) (by lia) fun _ => ?_
  repeat' walk_at "e"
  refine hw_range fun r h4 _ _ _ k4 hr hr' R => ?_
  have S := S.call k4
  refine hw_iter_range R (by lia) fun it h₃ k3 hi hi' R3 => ?_
  refine hs_mapA [("digits", .ref dg)] (fun i a h => IL h a (rowOf (digitsOf (ds.getD i 0)) i)) (fun i a => Dep.il a _) OK.hd S rfl rfl rfl rfl rfl (by walk_at "cl") (by walk_at "lc") itr_range ⟨Nat.zero_le _, R3⟩ k3 (fun a ha => by cases List.mem_singleton.mp ha; exact hi') (by simp only [sizeLine]; lia) (fun a ha => by cases List.mem_singleton.mp ha; exact hi) ?turn ?fin
  case turn =>
    rintro C i v h4 k4 hi4 ⟨t, rfl⟩ S
    obtain ⟨a, ea, La, er⟩ := (f2 _ S.imm.2).at (i := i) (by rw [List.length_map]; exact hi4)
    have e1 : (ds.map digitsOf).getD i [] = digitsOf (ds.getD i 0) := by simp [List.getD, hi4]
    rw [e1] at La
    repeat' walk_at "e"
    refine hw_item (f2 _ S.imm.2).1 (by lia) (by lia) (by rw [Int.toNat_natCast, List.getElem?_toArray]; exact er) ?_
    repeat' walk_at "e"
    refine ⟨keep_tab S.g 14 rfl, ?_⟩
    refine lawRow (n := n) OK S.g La (Nat.le_trans (digitsOf_spec _).2.2.2 (by decide)) fun h6 a' k6 ha L6 => ?_
    exact ⟨S.base.trans k6, a', rfl, ha, L6⟩
  case fin =>
    intro C rw' rs h4 k4 hC hdg hneC hl4 hm hgs pr
    with_reducible refine useC_none ?_
    intro h5 k5
    have R5 : Rws h5 rw' rs (rowsOf ds) := ⟨list_past hl4 k5 hneC, paired_keep k5 (fun a ha hm => (hgs a ha).2 (List.mem_singleton.mp hm)) (paired_rows pr)⟩
    have hall : ∀ a ∈ rw' :: rs, _ ≤ a := fun a ha => (List.mem_cons.mp ha).elim (fun e => e ▸ hdg) fun ha => (hgs a ha).1
    have hall' : ∀ a ∈ rw' :: rs, h.objs.size ≤ a := fun a ha => Nat.le_trans S.base.sz (hall a ha)
    have S := (S.past k4 k5 hC).add R5 (Dep.rws rw' rs _) fun a ha => ⟨R5.lt a ha, S.new (hall a ha)⟩
    intro h6 k6
    have S := S.call k6
    repeat' walk_at "e"
    rename_i S
    exact q _ _ _ _ hlo hall' (S0.unbase S fun _ hm => nomatch hm)

end
end

-- F6
section
open PySem PySem.W PyProof.Rows PySem.Calls
section
variable {prog : Program} {w : World} {A : Around} {mg mb : Str → Option Value} {X : List Addr} {B : Heap} {I : Heap → Prop} {h : Heap} {b : Nat}

noncomputable def pairOf7 (x : Int) : List Int := [numOf x, 7]
theorem law4 {dr nu dg pl rw' : Addr} {rs : List Addr} {ds : List Int} {Q : Flow → Heap → Prop} {n : Nat} (OK : Ok A (n + 3)) (f3 : ∀ h, I h → IL h nu (ds.map numOf)) (f4 : ∀ h, I h → Rws h rw' rs (rowsOf ds)) (hn : ds.length ≤ 11) (S : St mg mb X B (lawW b) (lawEnv b) [("rows", .ref rw'), ("places", .ref pl), ("digits", .ref dg), ("numbers", .ref nu), ("drawn", .ref dr), ("script", .ref 165)] I h)
    (q : ∀ h', St mg mb X B (lawW b) (lawEnv b) [("rows", .ref rw'), ("places", .ref pl), ("digits", .ref dg), ("numbers", .ref nu), ("drawn", .ref dr), ("script", .ref 165)] I h' → Q .next h') :
    hw (model prog w) A (exec (lawSt 3) (lawEnv b)) Q h := by
  have lr : (rowsOf ds).length = ds.length := by simp [rowsOf]
  have rl : rs.length = ds.length := by rw [(f4 _ S.imm).len, lr]
  refine hw_If ?_
  refine hw_isTrue_Compare ?_ (by with_unfolding_all rfl)
  refine hw_ListComp rfl rfl rfl ?_ (fun _ => rfl)
  repeat' walk_at "e"
  refine hw_iter_list (f4 _ S.imm).1 fun it h2 k2 hit hne hlt I2 L2 => ?_
  have T := itr_list (prog := prog) (w := w) (items := (rs.map Value.ref).toArray) hne
  have es : (rs.map Value.ref).toArray.size = ds.length := by rw [List.size_toArray, List.length_map, rl]
  rw [es] at T
  refine hs_mapA [] (fun i a h => IL h a (pairOf7 (ds.getD i 0))) (fun i a => Dep.il a _) OK.hd S rfl rfl rfl rfl rfl (by walk_at "cl") (by walk_at "lc") T ⟨I2, L2⟩ k2 (fun a ha => by rcases List.mem_cons.mp ha with rfl | ha; exact hlt; cases List.mem_singleton.mp ha; exact list_lt L2) (by simp only [sizeLine]; lia) (fun a ha => by cases List.mem_singleton.mp ha; exact hit) ?turn ?fin
  case turn =>
    rintro C i v h4 k4 hi4 hv S
    obtain ⟨a, ea, La, er⟩ := (f4 _ S.imm).at (i := i) (by rw [lr]; exact hi4)
    rw [List.getElem?_toArray, er] at hv
    cases hv
    have e1 : (rowsOf ds).getD i [] = rowOf (digitsOf (ds.getD i 0)) i := by simp [List.getD, rowsOf, hi4]
    rw [e1] at La
    obtain ⟨d1, d2, d3, d4⟩ := digitsOf_spec (ds.getD i 0)
    have sv := sixVal_row (u := (i : Int)) d2
    obtain ⟨os, last, e2, e3, e4, e5⟩ := row_split (u := (i : Int)) d2 d3
    rw [e2] at La sv
    repeat' walk_at "e"
    refine ⟨keep_tab S.g 17 rfl, ?_⟩
    refine lawRead (n := n + 1) OK S.g La e4 e5 (by lia) fun h6 a' k6 ha L6 => ?_
    rw [sv, d1] at L6
    exact ⟨S.base.trans k6, a', rfl, ha, L6⟩
  case fin =>
    intro C l1 a1 h4 k4 hC hdg hneC hl4 hm hgs pr
    with_reducible refine useC_none ?_
    intro h5 k5
    have pr' := paired_rows pr
    rw [map_getD' pairOf7 0] at pr'
    have R5 : Rws h5 l1 a1 (ds.map pairOf7) := ⟨list_past hl4 k5 hneC, paired_keep k5 (fun a ha hm => (hgs a ha).2 (List.mem_singleton.mp hm)) pr'⟩
    have S := S.past k4 k5 hC
    refine hw_ListComp rfl rfl rfl ?_ (fun _ => rfl)
    repeat' walk_at "e"
    obtain ⟨vs, hl, hi⟩ := f3 _ S.imm
    refine hw_iter_list hl fun it h6 k6 hit hne hlt I2 L2 => ?_
    have T := itr_ints (prog := prog) (w := w) hne hi
    have el : (ds.map numOf).length = ds.length := List.length_map ..
    rw [el] at T
    refine hs_mapA [] (fun i a h => IL h a (pairOf7 (ds.getD i 0))) (fun i a => Dep.il a _) OK.hd S rfl rfl rfl rfl rfl (by walk_at "cl") (by walk_at "lc") T ⟨I2, L2⟩ k6 (LI.lt ⟨I2, L2⟩) (by simp only [sizeLine]; lia) (fun a ha => by cases List.mem_singleton.mp ha; exact hit) ?turn2 ?fin2
    case turn2 =>
      rintro C i v h7 k7 hi7 ⟨t, rfl⟩ S
      have e1 : (ds.map numOf).getD i 0 = numOf (ds.getD i 0) := by simp [List.getD, hi7]
      repeat' walk_at "e"
      refine hw_ilNew (ns := pairOf7 (ds.getD i 0)) (by rw [e1]; exact .cons _ _ (.cons _ _ .nil)) (by show 2 ≤ sizeLine; decide) fun a h8 k8 ha L8 => ?_
      exact ⟨S.base.trans k8, a, rfl, ha, L8⟩
    case fin2 =>
      intro C2 l2 a2 h7 k7 hC2 hl2 hneC2 hl7 hm2 hgs2 pr2
      with_reducible refine useC_none ?_
      intro h8 k8
      have pr2' := paired_rows pr2
      rw [map_getD' pairOf7 0] at pr2'
      have R8 : Rws h8 l2 a2 (ds.map pairOf7) := ⟨list_past hl7 k8 hneC2, paired_keep k8 (fun a ha hm => (hgs2 a ha).2 (List.mem_singleton.mp hm)) pr2'⟩
      have R5' := R5.call (KX.past k7 k8 hC2)
      have S := S.past k7 k8 hC2
      refine hw_neSame (n := n + 2) OK (rd_ll R5'.1 R5'.2) (rd_ll R8.1 R8.2) (canLay_ld _) (Nat.le_trans (depth_ld _) (by decide)) ?_
      repeat' walk_at "e"
      exact q _ S

end
end

-- F7
section
open PySem PySem.W PyProof.Rows PySem.Calls
section
variable {prog : Program} {w : World} {A : Around} {mg mb : Str → Option Value} {X : List Addr} {B : Heap} {W : List Addr} {env : Env} {l lc : List (Str × Value)} {I : Heap → Prop} {h₁ h₂ : Heap}
theorem hs_comp2 {elt iter target : Expr} {pos : Pos} {ifs : List Expr} {scope : Scope} {cl : List (Str × Addr)} {use : Option (Value → Sem Unit)} {Q : Value → Heap → Prop} {it : Value} {D wi wt : List Addr} {n : Nat} {Mid : Nat → Value → Heap → Prop} {P : Nat → Heap → Prop} {V : Nat → List (Str × Value) → Heap → Prop}
    (lc : List (Str × Value)) (J : List Addr → Nat → List Value → Heap → Prop)
    (hA : A.handled = none) (S : St mg mb X B W env l I h₁) (hclos : closureFor scope env = pure cl)
    (hkind : scope.kind = .function) (hcell : (scope.names.all fun y => y.2 != .cell) = true) (hnames : (scope.names.all fun y => y.2 != .local || scope.names.lookup y.1 == some .local) = true)
    (hcl : ∀ p ∈ cl, env.cells.lookup p.1 = some p.2) (hlc : ∀ p ∈ lc, p ∈ l ∧ kOk env scope cl p.1 = true)
    (T : ItrT (model prog w) it D wi n Mid P) (p0 : P 0 h₂) (k12 : KX [] h₁ h₂) (hD : ∀ a ∈ D, a < h₂.objs.size) (hn : n ≤ sizeLine)
    (hwi : ∀ a ∈ wi, h₁.objs.size ≤ a ∨ (a ∈ W ∧ ∀ y c, env.cells.lookup y = some c → c ≠ a)) (hwt : ∀ a ∈ wt, a < h₁.objs.size ∧ a ∉ D ∧ a ∈ W ∧ ∀ y c, env.cells.lookup y = some c → c ≠ a)
    (asg : ∀ C i v h m, h₂.objs.size ≤ C → i < n → h.Ns C m → Mid i v h → hw (model prog w) A (letOwnedTupleGo target it v >>= fun _ => assign target (compEnvC scope cl C env) v) (fun _ h' => KX (C :: wi) h h' ∧ P (i + 1) h' ∧ ∃ lb m', h'.Ns C m' ∧ (∀ p ∈ lb, scope.names.lookup p.1 = some .local ∧ m' p.1 = some p.2) ∧ V i lb h') h)
    (j0 : ∀ U h, KX [] h₂ h → (∀ a ∈ U, h₂.objs.size ≤ a ∨ a ∈ wi) → J U 0 [] h)
    (jst : ∀ U i ys h h', KX U h h' → J U i ys h → J U i ys h')
    (turn : ∀ C acc i lb ys h, KX (wi ++ wt) h₂ h → h₂.objs.size ≤ C → h₂.objs.size ≤ acc → C < h.objs.size → acc < h.objs.size → (∀ a ∈ wi, a < h.objs.size) → i < n → V i lb h → J (C :: acc :: wi) i ys h →
      St mg mb wt h wt (compEnvC scope cl C env) (lb ++ lc) I h →
      tests (model prog w) A (compEnvC scope cl C env) ifs (fun ok h' => if ok then hw (model prog w) A (eval elt (compEnvC scope cl C env)) (fun y h'' => KX wt h h'' ∧ J (C :: acc :: wi) (i + 1) (ys ++ [y]) h'') h' else KX wt h h' ∧ J (C :: acc :: wi) (i + 1) ys h') h)
    (fin : ∀ C acc ys h, KX (wi ++ wt) h₂ h → h₂.objs.size ≤ C → h₂.objs.size ≤ acc → C ≠ acc → h.IsList acc ys.toArray → (∃ m, h.Ns C m) → ys.length ≤ n → J (C :: acc :: wi) n ys h → useC (model prog w) A use Q (.ref acc) C h) :
    hw (model prog w) A (newList []) (fun acc h₃ => hw (model prog w) A (newFunctionEnv scope env.globals cl [] env.qual none .none (some env)) (fun cenv h₄ =>
      hc (model prog w) A (.compStart (.ListComp elt [⟨target, iter, ifs, 0⟩] scope pos) 0 it acc { cenv with scope := relabel scope env }) (fun _ h => (∃ m, h.Ns cenv.locals m) ∧ useC (model prog w) A use Q acc cenv.locals h) h₄) h₃) h₂ := by
  refine hw_newList (Nat.zero_le _) fun acc h₃ k3 ha ha' hl => ?_
  intro s e
  subst e
  refine wpAny_newFunctionEnv (fun y hy => by simpa using List.all_eq_true.mp hcell y hy) (fun y hy => nomatch hy) (fun h₄ hns hsb => ?_) hkind
  refine ⟨⟨rfl, rfl, rfl⟩, ?_⟩
  show hc _ _ (.compStart _ 0 it (.ref acc) (compEnvC scope cl s.heap.objs.size env)) (fun _ h => (∃ m, h.Ns s.heap.objs.size m) ∧ useC (model prog w) A use Q (.ref acc) s.heap.objs.size h) h₄
  have hC2 : h₂.objs.size ≤ s.heap.objs.size := k3.sz
  generalize hCe : s.heap.objs.size = C at hns hsb hC2 ⊢
  have hCacc : acc ≠ C := fun z => by rw [← hCe] at z; exact Nat.lt_irrefl _ (z ▸ ha')
  have k34 : KX [] s.heap h₄ := KX.of_all (by rw [hsb.1, Heap.size_push]; lia) fun b o e => hsb.extBut b o (by rw [← hCe]; exact Nat.ne_of_lt (Heap.lt_size e)) (Heap.get?_push_of_some _ e)
  have k24 : KX [] h₂ h₄ := k3.trans k34
  let U := C :: acc :: wi
  let env' := compEnvC scope cl C env
  let LI : Nat → Heap → Prop := fun m h => ∃ i ys, m = n - i ∧ i ≤ n ∧ ys.length ≤ i ∧ KX (C :: acc :: (wi ++ wt)) h₂ h ∧ h₄.objs.size ≤ h.objs.size ∧ P i h ∧ h.IsList acc ys.toArray ∧ (∃ m', h.Ns C m') ∧ J U i ys h
  have fresh : ∀ a ∈ D, a ≠ C ∧ a ≠ acc := fun a hd => ⟨fun z => Nat.lt_irrefl _ (Nat.lt_of_lt_of_le (hD a hd) (z ▸ hC2)), fun z => Nat.lt_irrefl _ (Nat.lt_of_lt_of_le (hD a hd) (z ▸ ha))⟩
  have k2 : ∀ {h}, KX (C :: acc :: (wi ++ wt)) h₂ h → KX (wi ++ wt) h₂ h := fun k => ⟨k.sz, fun b o hb e => k.keep b o (fun hm => by
    rcases List.mem_cons.mp hm with z | hm
    · exact Nat.lt_irrefl _ (Nat.lt_of_lt_of_le (Heap.lt_size e) (z ▸ hC2))
    rcases List.mem_cons.mp hm with z | hm
    · exact Nat.lt_irrefl _ (Nat.lt_of_lt_of_le (Heap.lt_size e) (z ▸ ha))
    · exact hb hm) e⟩
  have wtlt : ∀ a ∈ wt, a ≠ C ∧ a ≠ acc ∧ a ∉ wi := fun a ht => ⟨fun z => Nat.lt_irrefl _ (Nat.lt_of_lt_of_le (hwt a ht).1 (Nat.le_trans k12.sz (z ▸ hC2))), fun z => Nat.lt_irrefl _ (Nat.lt_of_lt_of_le (hwt a ht).1 (Nat.le_trans k12.sz (z ▸ ha))), fun hm => (hwt a ht).2.1 (T.wid a hm)⟩
  have loop : ∀ m h, LI m h → hc (model prog w) A (.compLoop (.ListComp elt [⟨target, iter, ifs, 0⟩] scope pos) 0 it (.ref acc) env') (fun _ h' => (∃ m, h'.Ns C m) ∧ useC (model prog w) A use Q (.ref acc) C h') h := by
    intro m h hI s0 e0
    refine codeAny_compLoop_go (fun m s' => Sm s0 s' ∧ LI m s'.heap) (fun m s' ⟨sm, i, ys, hm, hin, hyl, k, hsz, p, hl, ⟨m', hns⟩, j⟩ => ?_) m ⟨Sm.refl s0, e0 ▸ hI⟩
    refine wpAny_mono (T.next A i s'.heap hA p s' rfl) (fun r s₁ ⟨sm1, kn, q⟩ => ?_) fun _ _ f => f.elim
    rcases q with ⟨rfl, hni⟩ | ⟨v, rfl, hi, hmid⟩
    · have hieq : i = n := by lia
      subst hieq
      have kk : KX (C :: acc :: (wi ++ wt)) h₂ s₁.heap := k.trans (kn.mono fun a hm => .tail _ (.tail _ (List.mem_append_left _ hm)))
      have hnC : C ∉ wi := fun hm => (fresh C (T.wid C hm)).1 rfl
      have hnA : acc ∉ wi := fun hm => (fresh acc (T.wid acc hm)).2 rfl
      have n1 : s₁.heap.Ns C m' := ns_keep hns kn hnC
      exact ⟨sm.trans sm1, ⟨m', n1⟩, fin C acc ys s₁.heap (k2 kk) hC2 ha (Ne.symm hCacc) (list_keep hl kn hnA) ⟨m', n1⟩ hyl (jst U i ys _ _ (kn.mono fun a hm => .tail _ (.tail _ hm)) j)⟩
    · have hnC : C ∉ wi := fun hm => (fresh C (T.wid C hm)).1 rfl
      have hnA : acc ∉ wi := fun hm => (fresh acc (T.wid acc hm)).2 rfl
      refine wpAny_mono (asg C i v s₁.heap m' hC2 hi (ns_keep hns kn hnC) hmid s₁ rfl) (fun _ s2 z2 => ?_) fun _ _ f => f.elim
      obtain ⟨sm2, k5, p5, lb, m5, hn5, hb5, hv5⟩ := z2
      generalize hh5 : s2.heap = h5 at k5 p5 hn5 hv5
      have kk : KX (C :: acc :: (wi ++ wt)) h₂ h5 := (k.trans (kn.mono fun a hm => .tail _ (.tail _ (List.mem_append_left _ hm)))).trans (k5.mono fun a hm => by
        rcases List.mem_cons.mp hm with rfl | hm
        · exact .head _
        · exact .tail _ (.tail _ (List.mem_append_left _ hm)))
      have sz5 : h₄.objs.size ≤ h5.objs.size := Nat.le_trans hsz (Nat.le_trans kn.sz k5.sz)
      have hl5 : h5.IsList acc ys.toArray := list_keep (list_keep hl kn hnA) k5 fun hm => by
        rcases List.mem_cons.mp hm with e | hm
        · exact hCacc e
        · exact hnA hm
      have j5 : J U i ys h5 := jst U i ys _ _ (k5.mono fun a hm => by
        rcases List.mem_cons.mp hm with rfl | hm
        · exact .head _
        · exact .tail _ (.tail _ hm)) (jst U i ys _ _ (kn.mono fun a hm => .tail _ (.tail _ hm)) j)
      have C5 : C < h5.objs.size := hn5.lt
      have A5 : acc < h5.objs.size := list_lt hl5
      have St5 : St mg mb wt h5 wt env' (lb ++ lc) I h5 := by
        refine comp_env S hkind hcl hlc (U := wi ++ wt) (k12.any.trans (k2 kk)) (Nat.le_trans k12.sz hC2) (fun a hm => ?_) (fun a ht => ⟨List.mem_append_right _ ht, (hwt a ht).1⟩) _ hn5 hb5
        rcases List.mem_append.mp hm with hm | hm
        · exact hwi a hm
        · exact .inr ⟨(hwt a hm).2.2.1, (hwt a hm).2.2.2⟩
      have y := turn C acc i lb ys h5 (k2 kk) hC2 ha C5 A5 (fun a hm => Nat.lt_of_lt_of_le (hD a (T.wid a hm)) kk.sz) hi hv5 j5 St5
      have again : ∀ y' h6, KX wt h5 h6 → J U (i + 1) y' h6 → y'.length ≤ i + 1 → ∀ h7, h7.IsList acc y'.toArray → KX [acc] h6 h7 → LI (n - (i + 1)) h7 := by
        intro y' h6 k6 j6 yl h7 l7 k7
        refine ⟨i + 1, y', rfl, hi, yl, (kk.trans (k6.mono fun a hm => .tail _ (.tail _ (List.mem_append_right _ hm)))).trans (k7.mono fun a hm => by cases List.mem_singleton.mp hm; exact .tail _ (.head _)), Nat.le_trans sz5 (Nat.le_trans k6.sz k7.sz), ?_, l7, ?_, jst _ _ _ _ _ (k7.mono fun a hm => by cases List.mem_singleton.mp hm; exact .tail _ (.head _)) j6⟩
        · exact T.stab [acc] (fun a hm => by cases List.mem_singleton.mp hm; exact fun hd => (fresh acc hd).2 rfl) _ _ _ k7 (T.stab wt (fun a ht => (hwt a ht).2.1) _ _ _ k6 p5)
        · exact ⟨_, ns_keep (ns_keep hn5 k6 fun hm => (wtlt C hm).1 rfl) k7 fun hm => hCacc (List.mem_singleton.mp hm).symm⟩
      have elt' : ∀ h5', KX wt h5 h5' → hw (model prog w) A (eval elt env') (fun y h'' => KX wt h5 h'' ∧ J U (i + 1) (ys ++ [y]) h'') h5' → hw (model prog w) A (eval elt env') (fun y h'' => hw (model prog w) A (call (.builtin "list.append") [.ref acc, y]) (fun _ h7 => ∃ m'', m'' < m ∧ LI m'' h7) h'') h5' := by
        intro h5' kt z
        refine hw_mono z fun y h6 ⟨k6, j6⟩ => ?_
        have l6 : h6.IsList acc ys.toArray := list_keep hl5 k6 fun hm => (wtlt acc hm).2.1 rfl
        refine hw_append l6 (by rw [List.size_toArray]; lia) fun h7 s7 l7 => ⟨n - (i + 1), by lia, again (ys ++ [y]) h6 k6 j6 (by rw [List.length_append]; show ys.length + 1 ≤ _; lia) h7 (by simpa using l7) (KX.same s7 (.head _))⟩
      have lift : ∀ (s5 : Shared), Sm s0 s5 → ∀ h5', s5.heap = h5' → KX wt h5 h5' → hw (model prog w) A (eval elt env') (fun y h'' => KX wt h5 h'' ∧ J U (i + 1) (ys ++ [y]) h'') h5' →
          wpAny (model prog w) A (eval elt env') (fun x s₄ => wpAny (model prog w) A (call (.builtin "list.append") [.ref acc, x]) (fun _ s₅ => ∃ m'', m'' < m ∧ Sm s0 s₅ ∧ LI m'' s₅.heap) (notedBy (model prog w) A env' fun _ _ => False) s₄) (notedBy (model prog w) A env' fun _ _ => False) s5 := by
        intro s5 sm5 h5' e5 kt z
        refine wpAny_mono (nest (elt' h5' kt z) s5 e5) (fun x s₄ q => wpAny_mono q (fun _ s₅ ⟨a, m'', b, c⟩ => ⟨m'', b, sm5.trans a, c⟩) fun _ _ f => f.elim) fun _ _ f => f.elim
      have sm5 : Sm s0 s2 := (sm.trans sm1).trans sm2
      match ifs, y with
      | [], y => exact wpAny_tests_nil (by rw [if_pos rfl]; exact lift _ sm5 h5 hh5 (KX.refl _ _) (by simpa [tests] using y))
      | [c], y =>
        refine wpAny_tests_one (wpAny_mono (y s2 hh5) (fun ok s6 ⟨sm6, y6⟩ => ?_) fun _ _ f => f.elim)
        cases ok with
        | true =>
          rw [if_pos rfl]
          have y6' : hw (model prog w) A (eval elt env') (fun y h'' => KX wt h5 h'' ∧ J U (i + 1) (ys ++ [y]) h'') s6.heap := by simpa using y6
          refine wpAny_mono (y6' s6 rfl) (fun x s₄ ⟨a, k6, j6⟩ => ?_) fun _ _ f => f.elim
          have l6 : s₄.heap.IsList acc ys.toArray := list_keep hl5 k6 fun hm => (wtlt acc hm).2.1 rfl
          have := hw_append (prog := prog) (w := w) (A := A) (x := x) (Q := fun _ h7 => ∃ m'', m'' < m ∧ LI m'' h7) l6 (by rw [List.size_toArray]; lia) fun h7 s7 l7 => ⟨n - (i + 1), by lia, again (ys ++ [x]) s₄.heap k6 j6 (by rw [List.length_append]; show ys.length + 1 ≤ _; lia) h7 (by simpa using l7) (KX.same s7 (.head _))⟩
          exact wpAny_mono (this s₄ rfl) (fun _ s₅ ⟨b, m'', c, d⟩ => ⟨m'', c, ((sm5.trans sm6).trans a).trans b, d⟩) fun _ _ f => f.elim
        | false =>
          have y6' : KX wt h5 s6.heap ∧ J U (i + 1) ys s6.heap := by simpa using y6
          simp only [Bool.false_eq_true, if_false]
          exact ⟨n - (i + 1), by lia, sm5.trans sm6, again ys s6.heap y6'.1 y6'.2 (by lia) s6.heap (list_keep hl5 y6'.1 fun hm => (wtlt acc hm).2.1 rfl) (KX.refl _ _)⟩
      | _ :: _ :: _, y => exact y.elim
  have start : LI (n - 0) h₄ := ⟨0, [], rfl, Nat.zero_le _, Nat.le_refl _, k24.any, Nat.le_refl _, T.stab [] (fun _ hm => nomatch hm) _ _ _ k24 p0, list_keep hl k34 (fun hm => nomatch hm), ⟨_, hns⟩, j0 U h₄ k24 fun a hm => by
    rcases List.mem_cons.mp hm with rfl | hm
    · exact .inl hC2
    rcases List.mem_cons.mp hm with rfl | hm
    · exact .inl ha
    · exact .inr hm⟩
  have p4 : P 0 h₄ := T.stab [] (fun _ hm => nomatch hm) _ _ _ k24 p0
  intro s4 e4
  refine codeAny_compStart_list ?_ ?_
  · refine codeAny_mono (loop _ _ start s4 e4) fun r s' z => ?_
    cases r with
    | ok f => exact z
    | error => exact z
  · refine wpAny_mono (T.iter A 0 h₄ p4 s4 e4) (fun it' s5 ⟨sm5, hit, hh⟩ => ?_) fun _ _ f => f.elim
    subst hit
    refine codeAny_mono (loop _ _ start s5 hh) fun r s' z => ?_
    cases r with
    | ok f => exact ⟨sm5.trans z.1, z.2⟩
    | error => exact z
end
/-! ## law's lambdas -/
noncomputable def codesOf (ps : Array Value) : List Addr := ps.toList.filterMap fun v => match v with | .ref c => some c | _ => none
theorem among_mem {pos : Pos} {c : Addr} (l : List Value) (h : TriplesOk l) (e : codeAmong pos l = some (.ref c)) : (.ref c : Value) ∈ l := by
  fun_induction TriplesOk l with
  | case1 => simp [codeAmong] at e
  | case2 p t q u x rest ih =>
    simp only [codeAmong] at e
    split at e
    · cases e; exact .tail _ (.tail _ (.head _))
    · exact .tail _ (.tail _ (.tail _ (ih h e)))
  | case3 => exact h.elim
theorem LT.keep {ps : Array Value} {h h' : Heap} {U : List Addr} (L : LT ps h) (k : KX U h h') (h1 : 163 ∉ U) (h2 : 161 ∉ U) (h3 : ∀ c ∈ codesOf ps, c ∉ U) : LT ps h' := by
  obtain ⟨⟨o, vs, file, tf, flags, tg, inF, text, tt, e, r⟩, hP, ht, hall⟩ := L
  refine ⟨⟨o, vs, file, tf, flags, tg, inF, text, tt, k.keep _ _ h1 e, r⟩, k.keep _ _ h2 hP, ht, fun pos cv e => ?_⟩
  obtain ⟨⟨c, rfl, hc⟩, r⟩ := hall pos cv e
  refine ⟨⟨c, rfl, hc⟩, codeRec_keep r fun o e' => k.keep _ _ (h3 c ?_) e'⟩
  exact List.mem_filterMap.mpr ⟨_, among_mem _ ht e, rfl⟩
section
variable {mg mb : Str → Option Value} {X : List Addr} {B : Heap} {W : List Addr} {env : Env} {l : List (Str × Value)} {I : Heap → Prop} {h : Heap}
theorem St.expand {D : List Addr} (S : St mg mb X B W env l I h) (hX : 161 ∈ X) (d : Dep D I) (hd : ∀ a ∈ D, a < h.objs.size ∧ a ∉ W ∧ a ≠ 161) : St mg mb X B (161 :: W) env l I h :=
  { S with
    hi := fun a ha => (List.mem_cons.mp ha).elim (fun e => .inr (.inr e)) (S.hi a)
    wb := fun a ha => (List.mem_cons.mp ha).elim (fun e => .inr (e ▸ hX)) (S.wb a)
    wlt := fun a ha => (List.mem_cons.mp ha).elim (fun e => e ▸ Nat.lt_of_lt_of_le (by decide) S.g.sz) (S.wlt a)
    dep := ⟨D, d, fun a ha => (hd a ha).1, fun a ha hm => (List.mem_cons.mp ha).elim (fun e => (hd a hm).2.2 e) fun ha => (hd a hm).2.1 ha⟩ }
theorem St.shrink {a : Addr} (S : St mg mb X B (a :: W) env l I h) : St mg mb X B W env l I h :=
  { S with
    hi := fun a ha => S.hi a (.tail _ ha)
    wb := fun a ha => S.wb a (.tail _ ha)
    wlt := fun a ha => S.wlt a (.tail _ ha)
    dep := let ⟨D, a, b, c⟩ := S.dep; ⟨D, a, b, fun d hd => c d (.tail _ hd)⟩ }
end
section
variable {prog : Program} {w : World} {A : Around} {mg mb : Str → Option Value} {h : Heap} {env : Env}
theorem hw_Lambda2 {params : Arguments} {body : Expr} {scope : Scope} {pos : Pos} {ps : Array Value} {Q : Value → Heap → Prop} (L : LT ps h) (h166 : 166 ≤ h.objs.size) (hg : h.Ns 3 mg) (hb : h.BuiltinsAt mg 161) (hdef : defaultsOf params env = ([], [])) (hcl : closureFor scope env = pure []) (hge : env.globals = 3) (hcode : env.code = .ref 163) (hq : env.qual ++ "<lambda>" = "law.<locals>.<lambda>")
    (q : ∀ (f : Addr) h' cv ctv ps', KX [161] h h' → h.objs.size ≤ f → h'.get? f = some { cls := .type "function", data := .func (kla_fn "<lambda>" "law.<locals>.<lambda>" params body scope [] ((mg "__name__").getD .none) cv ctv) } → h'.CodeRec cv "law.<locals>.<lambda>" → LT ps' h' → (∀ c ∈ codesOf ps', c ∈ codesOf ps ∨ (h.objs.size ≤ c ∧ c < h'.objs.size)) → (∃ more, ps' = ps ++ more) → Q (.ref f) h') :
    hw (model prog w) A (eval (.Lambda params body scope pos) env) Q h := by
  intro s e
  subst e
  refine kla_eval hdef ?_
  rw [hq]
  obtain ⟨C, hP, ht, hall⟩ := L
  cases hf : codeAmong pos ps.toList with
  | none =>
    refine kla_makeFunction hcl hge hg hcode C hP ht hf (by decide) hb fun c' ctv h' tk k hc1 hc2 hrec hP' => ⟨⟨rfl, rfl, rfl⟩, ?_⟩
    have k163 : ∀ o, s.heap.get? 163 = some o → (h'.push (kla_obj "<lambda>" "law.<locals>.<lambda>" params body scope [] ((mg "__name__").getD .none) c' ctv)).get? 163 = some o := fun o e => Heap.get?_push_of_some _ (k 163 o (by decide) e)
    refine q _ _ (.ref c') ctv (ps ++ #[rawInt pos.line, rawInt pos.col, .ref c']) ⟨by rw [Heap.size_push]; lia, fun b o hb e => Heap.get?_push_of_some _ (k b o (fun z => hb (z ▸ .head _)) e)⟩ (by lia) (Heap.get?_push_size _ rfl) (codeRec_keep hrec fun o e => Heap.get?_push_of_some _ e) ⟨?_, Heap.get?_push_of_some _ hP', ?_, ?_⟩ ?_ ⟨_, rfl⟩
    · obtain ⟨o, vs, file, tf, flags, tg, inF, text, tt, e, r⟩ := C
      exact ⟨o, vs, file, tf, flags, tg, inF, text, tt, k163 _ e, r⟩
    · simpa using triples_app _ ht
    · intro pos' cv e
      rcases among_app ps.toList ht (by simpa using e) with e | rfl
      · obtain ⟨⟨c, rfl, hc⟩, r⟩ := hall pos' cv e
        exact ⟨⟨c, rfl, hc⟩, codeRec_keep r fun o e => Heap.get?_push_of_some _ (k c o (fun z => by subst z; exact absurd hc (by decide)) e)⟩
      · exact ⟨⟨c', rfl, Nat.le_trans h166 hc1⟩, codeRec_keep hrec fun o e => Heap.get?_push_of_some _ e⟩
    · intro c hc
      unfold codesOf at hc
      rw [Array.toList_append, List.filterMap_append] at hc
      rcases List.mem_append.mp hc with hc | hc
      · exact .inl hc
      · simp [rawInt] at hc
        subst hc
        exact .inr ⟨hc1, by rw [Heap.size_push]; exact Nat.lt_succ_of_lt hc2⟩
  | some cv =>
    refine kla_makeFunctionHit hcl hge hg hcode C hP ht hf hb fun ctv h' tk k sz => ⟨⟨rfl, rfl, rfl⟩, ?_⟩
    obtain ⟨⟨c, rfl, hc⟩, r⟩ := hall pos cv hf
    refine q _ _ (.ref c) ctv ps ⟨by rw [Heap.size_push]; lia, fun b o hb e => Heap.get?_push_of_some _ (k b o e)⟩ sz (Heap.get?_push_size _ rfl) (codeRec_keep r fun o e => Heap.get?_push_of_some _ (k _ o e)) ⟨?_, Heap.get?_push_of_some _ (k _ _ hP), ht, ?_⟩ ?_ ⟨#[], by simp⟩
    · exact C.keeps fun b o e => Heap.get?_push_of_some _ (k b o e)
    · intro pos' cv e
      obtain ⟨⟨c, rfl, hc⟩, r⟩ := hall pos' cv e
      exact ⟨⟨c, rfl, hc⟩, codeRec_keep r fun o e => Heap.get?_push_of_some _ (k c o e)⟩
    · exact fun c hc => .inl hc
end
theorem lawCells {b : Nat} {y : Str} {c : Addr} (e : (lawEnv b).cells.lookup y = some c) : b < c := by
  have := List.mem_map_of_mem (f := Prod.snd) (mem_of_lookup e)
  simp only [lawEnv, List.map_cons, List.map_nil, List.mem_cons, List.not_mem_nil, or_false] at this
  rcases this with h | h | h | h | h | h | h <;> (rw [h]; exact Nat.lt_add_of_pos_right (by decide))
theorem app_ex {a b c : Array Value} (x : ∃ m, b = a ++ m) (y : ∃ m, c = b ++ m) : ∃ m, c = a ++ m := by
  obtain ⟨m, rfl⟩ := x
  obtain ⟨m', rfl⟩ := y
  exact ⟨m ++ m', by rw [Array.append_assoc]⟩
theorem lawW_ge {b : Nat} : ∀ a ∈ lawW b, b ≤ a := fun a ha => by
  simp only [List.mem_cons, List.not_mem_nil, or_false] at ha
  rcases ha with e | e | e | e | e | e | e | e <;> rw [e] <;> first | exact Nat.le_refl _ | exact Nat.le_add_right _ _
/-- the lambdas' table, and that it lies apart -/
structure LX (W : List Addr) (p0 ps : Array Value) (h : Heap) : Prop where
  lt : LT ps h
  ap : ∀ c ∈ codesOf ps, c < h.objs.size ∧ c ∉ W ∧ 166 ≤ c
  ex : ∃ more, ps = p0 ++ more
theorem LX.keep {W U : List Addr} {p0 ps : Array Value} {h h' : Heap} (L : LX W p0 ps h) (k : KX U h h') (h1 : 163 ∉ U) (h2 : 161 ∉ U) (h3 : ∀ a ∈ U, a ∈ W ∨ h.objs.size ≤ a ∨ a < 166) : LX W p0 ps h' :=
  ⟨L.lt.keep k h1 h2 fun c hc hm => by
    rcases h3 c hm with z | z | z
    · exact (L.ap c hc).2.1 z
    · exact Nat.lt_irrefl _ (Nat.lt_of_lt_of_le (L.ap c hc).1 z)
    · exact Nat.lt_irrefl _ (Nat.lt_of_lt_of_le z (L.ap c hc).2.2), fun c hc => ⟨Nat.lt_of_lt_of_le (L.ap c hc).1 k.sz, (L.ap c hc).2⟩, L.ex⟩
theorem LX.call {W : List Addr} {p0 ps : Array Value} {h h' : Heap} (L : LX W p0 ps h) (k : KX [] h h') : LX W p0 ps h' := L.keep k (fun hm => nomatch hm) (fun hm => nomatch hm) fun _ hm => nomatch hm
end

-- F8
section
open PySem PySem.W PyProof.Rows PySem.Calls
section
variable {prog : Program} {w : World} {A : Around} {mg mb : Str → Option Value} {X : List Addr} {B : Heap} {I : Heap → Prop} {h : Heap} {b : Nat}

theorem code_call {c : Value} {q : Str} {h h' : Heap} (x : h.CodeRec c q) (k : KX [] h h') : h'.CodeRec c q := by
  obtain ⟨c', o, vs, t, e, ho, r⟩ := x
  exact ⟨c', o, vs, t, e, k.all _ _ ho, r⟩
theorem nocell {l : List (Str × NameKind)} (h : (l.all fun x => x.2 != .cell) = true) : ∀ x ∈ l, x.2 ≠ .cell := fun x hx => by simpa using List.all_eq_true.mp h x hx
theorem lawQual : (Str.ofString "law.<locals>." ++ Str.ofString "<lambda>" : Str) = "law.<locals>.<lambda>" := by decide
theorem law5 {dr nu dg pl rw' : Addr} {gs : List Addr} {ds : List Int} {p0 ps : Array Value} {Q : Flow → Heap → Prop} {n : Nat} (OK : Ok A (n + 3)) (f2 : ∀ h, I h → Rws h dg gs (ds.map digitsOf)) (f3 : ∀ h, I h → IL h nu (ds.map numOf)) (hn : ds.length ≤ 11)
    (ba : BA mg h) (L : LX (lawW b) p0 ps h) (far : ∃ D, Dep D I ∧ ∀ a ∈ D, a < h.objs.size ∧ a ∉ lawW b ∧ a ≠ 161) (hX : 161 ∈ X) (hb : 166 ≤ b) (hdg : 166 ≤ dg) (S : St mg mb X B (lawW b) (lawEnv b) [("rows", .ref rw'), ("places", .ref pl), ("digits", .ref dg), ("numbers", .ref nu), ("drawn", .ref dr), ("script", .ref 165)] I h)
    (q : ∀ h' ps', LX (lawW b) p0 ps' h' → St mg mb X B (lawW b) (lawEnv b) [("rows", .ref rw'), ("places", .ref pl), ("digits", .ref dg), ("numbers", .ref nu), ("drawn", .ref dr), ("script", .ref 165)] I h' → Q .next h') :
    hw (model prog w) A (exec (lawSt 4) (lawEnv b)) Q h := by
  have gl : gs.length = ds.length := by rw [(f2 _ S.imm).len, List.length_map]
  obtain ⟨D, dD, hD⟩ := far
  have S0 := S
  have S := S.expand hX dD hD
  have h166 := S.g.sz
  refine hw_If ?_
  refine hw_isTrue_Compare ?_ (by with_unfolding_all rfl)
  refine hw_ListComp rfl rfl rfl ?_ (fun _ => rfl)
  repeat' walk_at "e"
  refine hw_iter_list (f2 _ S.imm).1 fun it h2 k2 hit hne hlt I2 L2 => ?_
  have T := itr_list (prog := prog) (w := w) (items := (gs.map Value.ref).toArray) hne
  have es : (gs.map Value.ref).toArray.size = ds.length := by rw [List.size_toArray, List.length_map, gl]
  rw [es] at T
  have low : ∀ a, 166 ≤ a → a ≠ 161 ∧ a ≠ 163 := fun a ha => ⟨fun e => absurd (e ▸ ha) (by decide), fun e => absurd (e ▸ ha) (by decide)⟩
  have cells_ne : ∀ y c, (lawEnv b).cells.lookup y = some c → c ≠ 161 := fun y c e => (low c (Nat.le_trans hb (Nat.le_of_lt (lawCells e)))).1
  have hit6 : 166 ≤ it := Nat.le_trans h166 hit
  have hDit : ∀ a ∈ [it, dg], a < h2.objs.size := fun a ha => by rcases List.mem_cons.mp ha with rfl | ha; exact hlt; cases List.mem_singleton.mp ha; exact list_lt L2
  refine hs_comp2 (wt := [161]) (V := fun i lb _ => ∃ v, lb = [((Str.ofString "row"), v)] ∧ (gs.map Value.ref).toArray[i]? = some v) [] (fun U i ys h => Paired (fun i v => ∃ t, v = .int (val64 (digitsOf (ds.getD i 0)) 0) t) (List.range i) ys ∧ 161 ∉ U ∧ 163 ∉ U ∧ ∃ ps, LX (lawW b) p0 ps h ∧ ∀ c ∈ codesOf ps, c ∉ U) OK.hd S rfl rfl rfl rfl (by walk_at "cl") (by walk_at "lc") T.toT ⟨I2, L2⟩ k2 hDit (by simp only [sizeLine]; lia) (fun a ha => by cases List.mem_singleton.mp ha; exact .inl hit) (fun a ha => by cases List.mem_singleton.mp ha; exact ⟨Nat.lt_of_lt_of_le (by decide) h166, fun hm => by simp only [List.mem_cons, List.not_mem_nil, or_false] at hm; rcases hm with e | e; exact (low it hit6).1 e.symm; exact (low dg hdg).1 e.symm, .head _, cells_ne⟩) (asg_name rfl rfl T hDit) ?j0 ?jst ?turn ?fin
  case j0 =>
    intro U h3 k3 hU
    have L3 : LX (lawW b) p0 ps h3 := (L.call k2).call k3
    refine ⟨.nil, fun hm => ?_, fun hm => ?_, ps, L3, fun c hc hm => ?_⟩
    · rcases hU 161 hm with e | e
      · exact absurd (Nat.le_trans (Nat.le_trans h166 k2.sz) e) (by decide)
      · exact (low it hit6).1 (List.mem_singleton.mp e).symm
    · rcases hU 163 hm with e | e
      · exact absurd (Nat.le_trans (Nat.le_trans h166 k2.sz) e) (by decide)
      · exact (low it hit6).2 (List.mem_singleton.mp e).symm
    · have hc' := (L.ap c hc).1
      rcases hU c hm with e | e
      · exact Nat.lt_irrefl _ (Nat.lt_of_lt_of_le hc' (Nat.le_trans k2.sz e))
      · cases List.mem_singleton.mp e; exact Nat.lt_irrefl _ (Nat.lt_of_lt_of_le hc' hit)
  case jst =>
    rintro U i ys h3 h4 k4 ⟨a1, a2, a3, ps, L3, a4⟩
    refine ⟨a1, a2, a3, ps, ⟨L3.lt.keep k4 a3 a2 a4, fun c hc => ⟨Nat.lt_of_lt_of_le (L3.ap c hc).1 k4.sz, (L3.ap c hc).2⟩, L3.ex⟩, a4⟩
  case turn =>
    rintro C acc i lb ys h3 k3 hC hacc hC' hacc' hwi hi ⟨v, rfl, hv⟩ ⟨a1, a2, a3, ps3, L3, a4⟩ S
    simp only [tests, if_true]
    obtain ⟨a, ea, La, er⟩ := (f2 _ S.imm).at (i := i) (by rw [List.length_map]; exact hi)
    rw [List.getElem?_toArray, er] at hv
    cases hv
    have e1 : (ds.map digitsOf).getD i [] = digitsOf (ds.getD i 0) := by simp [List.getD, hi]
    rw [e1] at La
    repeat' walk_at "e"
    have kh3 : KX ([it] ++ [161]) h h3 := k2.any.trans k3
    have hHi : Hi ([it] ++ [161]) := fun a ha => by
      rcases List.mem_append.mp ha with ha | ha
      · cases List.mem_singleton.mp ha; exact .inl hit6
      · cases List.mem_singleton.mp ha; exact .inr (.inr rfl)
    refine hw_Lambda2 L3.lt S.g.sz S.g.g (ba.at kh3 hHi (.inr (.inr rfl))) rfl rfl rfl rfl lawQual fun f h5 cv ctv ps5 k5 hf ho hcd L5 hps hex => ?_
    have hCl : 166 ≤ C := Nat.le_trans h166 (Nat.le_trans k2.sz hC)
    have hal : 166 ≤ acc := Nat.le_trans h166 (Nat.le_trans k2.sz hacc)
    have S := S.callX k5 (fun a ha => ha) (fun hm => (low C hCl).1 (List.mem_singleton.mp hm)) (fun x c e => nomatch (show ([] : List (Str × Addr)).lookup x = some c from e))
    replace S : St mg mb [161] h3 [161] _ [((Str.ofString "row"), .ref a)] I h5 := S
    have La5 : IL h5 a (digitsOf (ds.getD i 0)) := by
      obtain ⟨a', ea', La', _⟩ := (f2 _ S.imm).at (i := i) (by rw [List.length_map]; exact hi)
      rw [ea] at ea'; cases ea'
      rw [e1] at La'
      exact La'
    have LX5 : LX (lawW b) p0 ps5 h5 := ⟨L5, fun c hc => by
      rcases hps c hc with z | z
      · exact ⟨Nat.lt_of_lt_of_le (L3.ap c z).1 k5.sz, (L3.ap c z).2⟩
      · refine ⟨z.2, fun hm => ?_, Nat.le_trans (Nat.le_trans S0.g.sz kh3.sz) z.1⟩
        exact Nat.lt_irrefl _ (Nat.lt_of_lt_of_le (Nat.lt_of_lt_of_le (S0.wlt c hm) (Nat.le_trans k2.sz k3.sz)) z.1), app_ex L3.ex hex⟩
    have a5 : ∀ c ∈ codesOf ps5, c ∉ [C, acc, it] := fun c hc hm => by
      rcases hps c hc with z | z
      · exact a4 c z hm
      · have : c < h3.objs.size := by
          simp only [List.mem_cons, List.not_mem_nil, or_false] at hm
          rcases hm with e | e | e <;> rw [e]
          · exact hC'
          · exact hacc'
          · exact hwi it (.head _)
        exact Nat.lt_irrefl _ (Nat.lt_of_lt_of_le this z.1)
    obtain ⟨d1, d2, d3, d4⟩ := digitsOf_spec (ds.getD i 0)
    generalize hdd : digitsOf (ds.getD i 0) = dd at La5 d1 d2 d3 d4
    obtain ⟨us, hl5, hi5⟩ := La5
    have ul : us.length = dd.length := hi5.length
    have u0 : us[0]? = some us[0] := List.getElem?_eq_getElem (by lia)
    repeat' walk_at "e"
    refine ⟨keep_tab S.g 12 rfl, ?_⟩
    obtain ⟨x0, t0, ex0, ed0⟩ := ints_val hi5 u0
    refine reduceL (n := n + 2) (fun i v => ∃ t, v = .int (val64 (dd.take i) 0) t) OK S.g hl5 u0 ⟨t0, ?r0⟩ (fun h' k => keep_fn (k.all _ _ ho)) ?step ?done
    case r0 =>
      rw [ex0]
      congr 1
      cases dd with
      | nil => simp at ed0
      | cons d r => simp at ed0; subst ed0; simp [val64]
    case step =>
      rintro j acc' e A' h6 OK6 G6 k6 hj ⟨t, rfl⟩
      obtain ⟨y, ty, rfl, ey⟩ := ints_val hi5 hj
      refine hw_lam (n := n + 1) (binds := [("number", _), ("digit", _)]) (I := fun _ => True) OK6 G6 (k6.all _ _ ho) rfl (code_call hcd k6) rfl (by exact rfl) (nocell rfl) (fun p hp => by rcases List.mem_cons.mp hp with rfl | hp; rfl; cases List.mem_singleton.mp hp; rfl) (by show (["number", "digit"] : List Str).Nodup; decide) trivial (DepIn.true _) rfl rfl rfl ?_ rfl rfl rfl
      intro A7 h7 OK7 S
      repeat' walk_at "e"
      refine hw_mul (.of_right (by decide)) fun _ => ?_
      repeat' walk_at "e"
      have ev : val64 (dd.take (j + 1)) 0 = val64 (dd.take j) 0 * 64 + y := by
        have : dd.take (j + 1) = dd.take j ++ [y] := by rw [List.take_add_one, ey]; rfl
        rw [this, val64_app]; rfl
      rw [ev]
      exact ⟨S.base, _, rfl⟩
    case done =>
      rintro h6 v k6 ⟨t, rfl⟩
      rw [ul, List.take_length]
      refine ⟨k5.trans k6.any, ?_, a2, a3, ps5, LX5.call k6, a5⟩
      rw [List.range_succ]
      exact a1.snoc ⟨t, by rw [hdd]⟩
  case fin =>
    rintro C acc ys h3 k3 hC hacc hne hl hm hy ⟨a1, a2, a3, ps3, L3, a4⟩
    with_reducible refine useC_none ?_
    intro h5 k5
    have hC6 : 166 ≤ C := Nat.le_trans h166 (Nat.le_trans k2.sz hC)
    have iy := paired_ints (f := fun i => numOf (ds.getD i 0)) (paired_imp (fun i v ⟨t, e⟩ => ⟨t, by rw [e, (digitsOf_spec _).1]⟩) a1)
    rw [map_getD] at iy
    have Lacc : IL h5 acc (ds.map numOf) := ⟨ys, list_past hl k5 hne, iy⟩
    have k35 : KX ([it] ++ [161] ++ [C]) h h5 := (k2.any.trans (k3.mono fun a ha => List.mem_append_left _ ha)).trans (k5.mono fun a ha => List.mem_append_right _ ha)
    have L5 : LX (lawW b) p0 ps3 h5 := ⟨L3.lt.keep k5 (fun hm => (low C hC6).2 (List.mem_singleton.mp hm).symm) (fun hm => (low C hC6).1 (List.mem_singleton.mp hm).symm) (fun c hc hm => a4 c hc (by cases List.mem_singleton.mp hm; exact .head _)), fun c hc => ⟨Nat.lt_of_lt_of_le (L3.ap c hc).1 k5.sz, (L3.ap c hc).2⟩, L3.ex⟩
    have hS : St mg mb X B (lawW b) (lawEnv b) [("rows", .ref rw'), ("places", .ref pl), ("digits", .ref dg), ("numbers", .ref nu), ("drawn", .ref dr), ("script", .ref 165)] I h5 := by
      have old : ∀ a, a < h.objs.size → a ≠ 161 → a ∉ [it] ++ [161] ++ [C] := fun a ha h1 hm => by
        simp only [List.mem_append, List.mem_cons, List.not_mem_nil, or_false] at hm
        rcases hm with (e | e) | e
        · exact Nat.lt_irrefl _ (Nat.lt_of_lt_of_le (e ▸ ha) hit)
        · exact h1 e
        · exact Nat.lt_irrefl _ (Nat.lt_of_lt_of_le (e ▸ ha) (Nat.le_trans k2.sz hC))
      refine S0.turn k35 (fun a ha => ?_) (fun a ha => ?_) ?_ ?_ ?_ dD ?_
      · simp only [List.mem_append, List.mem_cons, List.not_mem_nil, or_false] at ha
        rcases ha with (e | e) | e
        · exact .inl (e ▸ hit6)
        · exact .inr (.inr e)
        · exact .inl (e ▸ hC6)
      · simp only [List.mem_append, List.mem_cons, List.not_mem_nil, or_false] at ha
        rcases ha with (e | e) | e
        · exact .inl (e ▸ Nat.le_trans S0.base.sz hit)
        · exact .inr (e ▸ hX)
        · exact .inl (e ▸ Nat.le_trans S0.base.sz (Nat.le_trans k2.sz hC))
      · exact old b (S0.wlt b (.head _)) (low b hb).1
      · exact fun y c e => old c (S0.cells_lt e) (cells_ne y c e)
      · exact dD _ (fun a ha hd => old a (hD a hd).1 (hD a hd).2.2 ha) _ _ k35 S0.imm
      · exact fun a ha => ⟨Nat.lt_of_lt_of_le (hD a ha).1 k35.sz, (hD a ha).2.1⟩
    have S := hS
    repeat' walk_at "e"
    refine hw_ilNe (n := n + 2) OK Lacc (f3 _ S.imm) ?_
    rw [decide_eq_true rfl]
    show hw (model prog w) A (truthy (.bool false)) _ h5
    repeat' walk_at "e"
    exact q _ _ L5 S

end
end

-- F9
section
open PySem PySem.W PyProof.Rows PySem.Calls
section
variable {prog : Program} {w : World} {A : Around} {mg mb : Str → Option Value} {X : List Addr} {B : Heap} {I : Heap → Prop} {h : Heap} {b : Nat}

theorem signs_ok {ns : List Int} (hn : ns.length ≤ 12) : (signsOf ns).length = 12 ∧ ∀ c ∈ signsOf ns, c < 128 ∧ b64v (c : Int) < 64 := by
  constructor
  · unfold signsOf; simp; lia
  · intro c hc
    unfold signsOf at hc
    rcases List.mem_append.mp hc with hc | hc
    · rw [(List.mem_replicate.mp hc).2]; exact ⟨by decide, by decide⟩
    · obtain ⟨o, _, rfl⟩ := List.mem_map.mp hc
      obtain ⟨a, b, _⟩ := sign_spec o
      exact ⟨a, by rw [b]; lia⟩
noncomputable def rowI (ds : List Int) (i : Nat) : List Int := rowOf (digitsOf (ds.getD i 0)) i
noncomputable def octI (ds : List Int) (i : Nat) : List Int := octOf (signsOf (rowI ds i))
theorem rowI_len (ds : List Int) (i : Nat) : (rowI ds i).length ≤ 9 := by unfold rowI; rw [rowOf_len]; exact (digitsOf_spec _).2.2.2
/-- a list of bytes -/
noncomputable def Bts (h : Heap) (a : Addr) (bss : List (List Int)) : Prop := ∃ vs : List Value, h.IsList a vs.toArray ∧ Paired (fun v bs => ∃ t, v = Value.bytes (byteArr bs) t) vs bss
theorem Dep.bts (a : Addr) (bss : List (List Int)) : Dep [a] (fun h => Bts h a bss) := fun _ hu _ _ k ⟨vs, l, p⟩ => ⟨vs, list_keep l k fun hm => hu _ hm (.head _), p⟩
theorem Bts.lt {h : Heap} {a : Addr} {bss : List (List Int)} (x : Bts h a bss) : a < h.objs.size := let ⟨_, l, _⟩ := x; list_lt l
theorem paired_bts {f : Nat → List Int} {is : List Nat} {ys : List Value} (p : Paired (fun i v => ∃ t, v = Value.bytes (byteArr (f i)) t) is ys) : Paired (fun v bs => ∃ t, v = Value.bytes (byteArr bs) t) ys (is.map f) := paired_turn f (fun _ _ x => x) p
theorem law6 {rw' : Addr} {rs : List Addr} {ds : List Int} {Q : Flow → Heap → Prop} {n : Nat} {l : List (Str × Value)} (OK : Ok A (n + 3)) (f4 : ∀ h, I h → Rws h rw' rs (rowsOf ds)) (hn : ds.length ≤ 11) (hl : Dr "octets" (("rows", .ref rw') :: l) (("rows", .ref rw') :: l)) (S : St mg mb X B (lawW b) (lawEnv b) (("rows", .ref rw') :: l) I h)
    (q : ∀ h' oc, h.objs.size ≤ oc → St mg mb X B (lawW b) (lawEnv b) (("octets", .ref oc) :: ("rows", .ref rw') :: l) (fun h => Bts h oc ((List.range ds.length).map (octI ds)) ∧ I h) h' → Q .next h') :
    hw (model prog w) A (exec (lawSt 5) (lawEnv b)) Q h := by
  have lr : (rowsOf ds).length = ds.length := by simp [rowsOf]
  have rl : rs.length = ds.length := by rw [(f4 _ S.imm).len, lr]
  refine hw_Assign_ListComp rfl rfl rfl rfl ?_ (fun _ => rfl)
  repeat' walk_at "e"
  refine hw_iter_list (f4 _ S.imm).1 fun it h2 k2 hit hne hlt I2 L2 => ?_
  have T := itr_list (prog := prog) (w := w) (items := (rs.map Value.ref).toArray) hne
  have es : (rs.map Value.ref).toArray.size = ds.length := by rw [List.size_toArray, List.length_map, rl]
  rw [es] at T
  refine hs_mapV [] (fun _ => true) (fun i v => ∃ t, v = .bytes (byteArr (octI ds i)) t) OK.hd S rfl rfl rfl rfl rfl (by walk_at "cl") (by walk_at "lc") T ⟨I2, L2⟩ k2 (fun a ha => by rcases List.mem_cons.mp ha with rfl | ha; exact hlt; cases List.mem_singleton.mp ha; exact list_lt L2) (by simp only [sizeLine]; lia) (fun a ha => by cases List.mem_singleton.mp ha; exact hit) ?turn ?fin
  case turn =>
    rintro C i v h4 k4 hi4 hv S
    refine ⟨rfl, ?_⟩
    obtain ⟨a, ea, La, er⟩ := (f4 _ S.imm).at (i := i) (by rw [lr]; exact hi4)
    rw [List.getElem?_toArray, er] at hv
    cases hv
    have e1 : (rowsOf ds).getD i [] = rowI ds i := by simp [List.getD, rowsOf, rowI, hi4]
    rw [e1] at La
    have rlen := rowI_len ds i
    have so := signs_ok (ns := rowI ds i) (by lia)
    repeat' walk_at "e"
    refine ⟨keep_tab S.g 15 rfl, ?_⟩
    refine lawSigns (n := n + 1) OK S.g La (by lia) fun h6 t k6 => ?_
    have S := S.call k6
    repeat' walk_at "e"
    refine ⟨keep_tab S.g 9 rfl, ?_⟩
    refine b64decode (n := n) OK S.g so.1 so.2 fun h7 t k7 => ?_
    exact ⟨S.base.trans k7, _, rfl⟩
  case fin =>
    intro C oc ys h4 k4 hC hdg hneC hl4 hm pr
    rw [filter_true] at pr
    have hoW := S.new hdg
    refine useC_store (a := b) S k4 hC hm rfl (.head _) hl fun h5 k5 S5 => ?_
    have B5 : Bts h5 oc ((List.range ds.length).map (octI ds)) := ⟨ys, list_keep hl4 k5 (fun hm => by
      simp only [List.mem_cons, List.not_mem_nil, or_false] at hm
      rcases hm with e | e
      · exact hoW (e ▸ .head _)
      · exact hneC e.symm), paired_bts pr⟩
    exact q _ _ hdg (S5.add B5 (Dep.bts oc _) fun a ha => by cases List.mem_singleton.mp ha; exact ⟨B5.lt, hoW⟩)

end
end

-- P4
section
open PySem PySem.W PyProof.Rows PySem.Calls
/-! ## twelve digits: nine octets, and back -/
theorem grp_ok {a b c d : Int} (ha : 0 ≤ a ∧ a < 64) (hb : 0 ≤ b ∧ b < 64) (hc : 0 ≤ c ∧ c < 64) (hd : 0 ≤ d ∧ d < 64) : ∀ n ∈ grp a b c d, 0 ≤ n ∧ n < 256 := by
  intro n hn
  simp only [grp, List.mem_cons, List.not_mem_nil, or_false] at hn
  rcases hn with rfl | rfl | rfl <;> lia
theorem val256_app (a b : List Int) (v : Int) : val256 (a ++ b) v = val256 b (val256 a v) := by simp [val256]
theorem four {zs : List Int} {n : Nat} (hl : zs.length = n + 4) (hd : DigOk zs) : ∃ a b c d r, zs = a :: b :: c :: d :: r ∧ r.length = n ∧ ((0 ≤ a ∧ a < 64) ∧ (0 ≤ b ∧ b < 64) ∧ (0 ≤ c ∧ c < 64) ∧ (0 ≤ d ∧ d < 64)) ∧ DigOk r := by
  cases zs with
  | nil => cases hl
  | cons a r => cases r with
    | nil => cases Nat.succ.inj hl
    | cons b r => cases r with
      | nil => cases Nat.succ.inj (Nat.succ.inj hl)
      | cons c r => cases r with
        | nil => cases Nat.succ.inj (Nat.succ.inj (Nat.succ.inj hl))
        | cons d r =>
          have h1 := fun x hx => hd x (.tail _ hx)
          have h2 := fun x hx => h1 x (.tail _ hx)
          have h3 := fun x hx => h2 x (.tail _ hx)
          exact ⟨a, b, c, d, r, rfl, Nat.succ.inj (Nat.succ.inj (Nat.succ.inj (Nat.succ.inj hl))), ⟨hd a (.head _), h1 b (.head _), h2 c (.head _), h3 d (.head _)⟩, fun x hx => h3 x (.tail _ hx)⟩
theorem grp_len (a b c d : Int) : (grp a b c d).length = 3 := rfl
theorem twelve {zs : List Int} (hl : zs.length = 12) (hd : DigOk zs) : (qrun zs).2.2.length = 9 ∧ (∀ n ∈ (qrun zs).2.2, 0 ≤ n ∧ n < 256) ∧ val256 (qrun zs).2.2 0 = val64 zs 0 ∧ (brun (qrun zs).2.2).2.2 = zs.map sgn := by
  obtain ⟨a0, a1, a2, a3, r, rfl, hl, ⟨h0, h1, h2, h3⟩, hd⟩ := four (n := 8) hl hd
  obtain ⟨a4, a5, a6, a7, r, rfl, hl, ⟨h4, h5, h6, h7⟩, hd⟩ := four (n := 4) hl hd
  obtain ⟨a8, a9, a10, a11, r, rfl, hl, ⟨h8, h9, h10, h11⟩, hd⟩ := four (n := 0) hl hd
  cases List.eq_nil_of_length_eq_zero hl
  have e : (qrun [a0, a1, a2, a3, a4, a5, a6, a7, a8, a9, a10, a11]).2.2 = grp a0 a1 a2 a3 ++ grp a4 a5 a6 a7 ++ grp a8 a9 a10 a11 := by
    unfold qrun
    rw [q_grp, q_grp, q_grp]
    rfl
  rw [e]
  refine ⟨rfl, ?_, ?_, ?_⟩
  · intro n hn
    rcases List.mem_append.mp hn with hn | hn
    · rcases List.mem_append.mp hn with hn | hn
      · exact grp_ok h0 h1 h2 h3 n hn
      · exact grp_ok h4 h5 h6 h7 n hn
    · exact grp_ok h8 h9 h10 h11 n hn
  · rw [val256_app, val256_app, val_grp _ h0 h1 h2 h3, val_grp _ h4 h5 h6 h7, val_grp _ h8 h9 h10 h11]
    rfl
  · unfold brun
    rw [List.foldl_append, List.foldl_append]
    obtain ⟨l1, e1⟩ := b_grp (lc := 0) (o := []) h0 h1 h2 h3
    rw [e1]
    obtain ⟨l2, e2⟩ := b_grp (lc := l1) (o := [] ++ [sgn a0, sgn a1, sgn a2, sgn a3]) h4 h5 h6 h7
    rw [e2]
    obtain ⟨l3, e3⟩ := b_grp (lc := l2) (o := [] ++ [sgn a0, sgn a1, sgn a2, sgn a3] ++ [sgn a4, sgn a5, sgn a6, sgn a7]) h8 h9 h10 h11
    rw [e3]
    rfl
/-- the digits behind the signs of a row -/
noncomputable def zsI (ds : List Int) (i : Nat) : List Int := List.replicate (12 - (rowI ds i).length) 0 ++ digitsOf (ds.getD i 0)
theorem six_rowI (ds : List Int) (i : Nat) : six (rowI ds i) = digitsOf (ds.getD i 0) := six_row (digitsOf_spec _).2.1
theorem zsI_ok (ds : List Int) (i : Nat) : (zsI ds i).length = 12 ∧ DigOk (zsI ds i) ∧ val64 (zsI ds i) 0 = numOf (ds.getD i 0) := by
  obtain ⟨a, b, c, d⟩ := digitsOf_spec (ds.getD i 0)
  refine ⟨?_, ?_, ?_⟩
  · unfold zsI rowI; rw [List.length_append, List.length_replicate, rowOf_len]; lia
  · intro x hx
    rcases List.mem_append.mp hx with hx | hx
    · rw [(List.mem_replicate.mp hx).2]; decide
    · exact b x hx
  · unfold zsI; rw [val64_app, val64_zeros, a]
theorem zsI_signs (ds : List Int) (i : Nat) : ((signsOf (rowI ds i)).map fun (c : Nat) => (c : Int)).map b64v = zsI ds i := by
  unfold signsOf zsI
  rw [List.map_append, List.map_append, List.map_replicate, List.map_replicate]
  congr 1
  rw [← six_rowI, List.map_map, List.map_map]
  unfold six
  exact List.map_congr_left fun o _ => (sign_spec o).2.1
theorem zsI_sgn (ds : List Int) (i : Nat) : (zsI ds i).map sgn = (signsOf (rowI ds i)).map fun (c : Nat) => (c : Int) := by
  unfold signsOf zsI
  rw [List.map_append, List.map_append, List.map_replicate, List.map_replicate]
  congr 1
  rw [← six_rowI, List.map_map]
  unfold six
  rw [List.map_map]
  exact List.map_congr_left fun o _ => (sign_spec o).2.2
theorem octI_spec (ds : List Int) (i : Nat) : (octI ds i).length = 9 ∧ (∀ n ∈ octI ds i, 0 ≤ n ∧ n < 256) ∧ val256 (octI ds i) 0 = numOf (ds.getD i 0) ∧ (brun (octI ds i)).2.2 = (signsOf (rowI ds i)).map fun (c : Nat) => (c : Int) := by
  obtain ⟨a, b, c⟩ := zsI_ok ds i
  obtain ⟨d, e, f, g⟩ := twelve a b
  have eo : octI ds i = (qrun (zsI ds i)).2.2 := by unfold octI octOf; rw [zsI_signs]
  rw [eo]
  exact ⟨d, e, f.trans c, g.trans (zsI_sgn ds i)⟩
end

-- F10
section
open PySem PySem.W PyProof.Rows PySem.Calls
section
variable {prog : Program} {w : World} {A : Around} {mg mb : Str → Option Value} {X : List Addr} {B : Heap} {I : Heap → Prop} {h : Heap} {b : Nat}

noncomputable def octs (ds : List Int) : List (List Int) := (List.range ds.length).map (octI ds) ++ [[]]
theorem octs_len (ds : List Int) : (octs ds).length = ds.length + 1 := by simp [octs]
theorem octs_get {ds : List Int} {i : Nat} (h : i < ds.length) : (octs ds).getD i [] = octI ds i := by
  have e : (octs ds)[i]? = some (octI ds i) := by
    unfold octs
    rw [List.getElem?_append_left (by simpa using h), List.getElem?_map, List.getElem?_range h]; rfl
  rw [List.getD, e]; rfl
theorem octs_ok (ds : List Int) (i : Nat) : ∀ n ∈ (octs ds).getD i [], 0 ≤ n ∧ n < 256 := by
  rcases Nat.lt_trichotomy i ds.length with h | h | h
  · rw [octs_get h]; exact (octI_spec ds i).2.1
  · subst h
    have : (octs ds).getD ds.length [] = [] := by simp [octs]
    rw [this]; simp
  · have : (octs ds).getD i [] = [] := by
      rw [List.getD, List.getElem?_eq_none (by rw [octs_len]; lia)]; rfl
    rw [this]; simp
theorem octs_val (ds : List Int) : (List.range (ds.length + 1)).map (fun i => val256 ((octs ds).getD i []) 0) = ds.map numOf ++ [0] := by
  rw [List.range_succ, List.map_append]
  congr 1
  · rw [← map_getD numOf ds]
    refine List.map_congr_left fun i hi => ?_
    have h := List.mem_range.mp hi
    rw [octs_get h]; exact (octI_spec ds i).2.2.1
  · simp [octs, val256]
theorem law7 {dr nu dg pl rw' oc : Addr} {ds : List Int} {p0 ps : Array Value} {Q : Flow → Heap → Prop} {n : Nat} (OK : Ok A (n + 3)) (f5 : ∀ h, I h → Bts h oc ((List.range ds.length).map (octI ds))) (f3 : ∀ h, I h → IL h nu (ds.map numOf)) (hn : ds.length ≤ 11)
    (ba : BA mg h) (L : LX (lawW b) p0 ps h) (far : ∃ D, Dep D I ∧ ∀ a ∈ D, a < h.objs.size ∧ a ∉ lawW b ∧ a ≠ 161) (hX : 161 ∈ X) (hb : 166 ≤ b) (S : St mg mb X B (lawW b) (lawEnv b) [("octets", .ref oc), ("rows", .ref rw'), ("places", .ref pl), ("digits", .ref dg), ("numbers", .ref nu), ("drawn", .ref dr), ("script", .ref 165)] I h)
    (q : ∀ h' ps', LX (lawW b) p0 ps' h' → St mg mb X B (lawW b) (lawEnv b) [("octets", .ref oc), ("rows", .ref rw'), ("places", .ref pl), ("digits", .ref dg), ("numbers", .ref nu), ("drawn", .ref dr), ("script", .ref 165)] I h' → Q .next h') :
    hw (model prog w) A (exec (lawSt 6) (lawEnv b)) Q h := by
  obtain ⟨D, dD, hD⟩ := far
  have S0 := S
  have S := S.expand hX dD hD
  have h166 := S.g.sz
  refine hw_If ?_
  refine hw_isTrue_Compare ?_ (by with_unfolding_all rfl)
  refine hw_ListComp rfl rfl rfl ?_ (fun _ => rfl)
  repeat' walk_at "e"
  refine hw_bytesC fun tb => ?_
  repeat' walk_at "e"
  refine hw_newList (by show 1 ≤ sizeLine; decide) fun e1 h0 k0 he1 he1' E1 => ?_
  have S := S.call k0
  obtain ⟨vo, hlo, pvo⟩ := f5 _ S.imm
  have lvo : vo.length = ds.length := by rw [paired_len pvo]; simp
  refine hw_add_list hlo E1 (by rw [List.size_toArray, List.size_toArray, lvo]; simp only [List.length_cons, List.length_nil, sizeLine]; lia) fun l2 h1 k1 hl2 hl2' E2 => ?_
  have S := S.call k1
  have E2' : h1.IsList l2 (vo ++ [Value.bytes (([] : List UInt8).toArray) tb]).toArray := by simpa using E2
  have pv2 : Paired (fun v bs => ∃ t, v = Value.bytes (byteArr bs) t) (vo ++ [Value.bytes (([] : List UInt8).toArray) tb]) (octs ds) := pvo.snoc ⟨tb, rfl⟩
  generalize vo ++ [Value.bytes (([] : List UInt8).toArray) tb] = vs at E2' pv2
  have lvs : vs.length = ds.length + 1 := by rw [paired_len pv2, octs_len]
  have hl26 : 166 ≤ l2 := Nat.le_trans h166 (Nat.le_trans k0.sz hl2)
  repeat' walk_at "e"
  refine hw_iter_list E2' fun it h2 k2 hit hne hlt I2 L2 => ?_
  have T := itr_list (prog := prog) (w := w) (items := vs.toArray) hne
  have es : vs.toArray.size = ds.length + 1 := by rw [List.size_toArray, lvs]
  rw [es] at T
  have h166 : 166 ≤ h1.objs.size := Nat.le_trans h166 (Nat.le_trans k0.sz k1.sz)
  have kh1 : KX [] h h1 := k0.trans k1
  have low : ∀ a, 166 ≤ a → a ≠ 161 ∧ a ≠ 163 := fun a ha => ⟨fun e => absurd (e ▸ ha) (by decide), fun e => absurd (e ▸ ha) (by decide)⟩
  have cells_ne : ∀ y c, (lawEnv b).cells.lookup y = some c → c ≠ 161 := fun y c e => (low c (Nat.le_trans hb (Nat.le_of_lt (lawCells e)))).1
  have hit6 : 166 ≤ it := Nat.le_trans h166 hit
  have hDit : ∀ a ∈ [it, l2], a < h2.objs.size := fun a ha => by rcases List.mem_cons.mp ha with rfl | ha; exact hlt; cases List.mem_singleton.mp ha; exact list_lt L2
  have L1 := L.call kh1
  refine hs_comp2 (wt := [161]) (V := fun i lb _ => ∃ v, lb = [((Str.ofString "row"), v)] ∧ vs.toArray[i]? = some v) [] (fun U i ys h => Paired (fun i v => ∃ t, v = .int (val256 ((octs ds).getD i []) 0) t) (List.range i) ys ∧ 161 ∉ U ∧ 163 ∉ U ∧ ∃ ps, LX (lawW b) p0 ps h ∧ ∀ c ∈ codesOf ps, c ∉ U) OK.hd S rfl rfl rfl rfl (by walk_at "cl") (by walk_at "lc") T.toT ⟨I2, L2⟩ k2 hDit (by simp only [sizeLine]; lia) (fun a ha => by cases List.mem_singleton.mp ha; exact .inl hit) (fun a ha => by cases List.mem_singleton.mp ha; exact ⟨Nat.lt_of_lt_of_le (by decide) h166, fun hm => by simp only [List.mem_cons, List.not_mem_nil, or_false] at hm; rcases hm with e | e; exact (low it hit6).1 e.symm; exact (low l2 hl26).1 e.symm, .head _, cells_ne⟩) (asg_name rfl rfl T hDit) ?j0 ?jst ?turn ?fin
  case j0 =>
    intro U h3 k3 hU
    have L3 : LX (lawW b) p0 ps h3 := (L1.call k2).call k3
    refine ⟨.nil, fun hm => ?_, fun hm => ?_, ps, L3, fun c hc hm => ?_⟩
    · rcases hU 161 hm with e | e
      · exact absurd (Nat.le_trans (Nat.le_trans h166 k2.sz) e) (by decide)
      · exact (low it hit6).1 (List.mem_singleton.mp e).symm
    · rcases hU 163 hm with e | e
      · exact absurd (Nat.le_trans (Nat.le_trans h166 k2.sz) e) (by decide)
      · exact (low it hit6).2 (List.mem_singleton.mp e).symm
    · have hc' := (L1.ap c hc).1
      rcases hU c hm with e | e
      · exact Nat.lt_irrefl _ (Nat.lt_of_lt_of_le hc' (Nat.le_trans k2.sz e))
      · cases List.mem_singleton.mp e; exact Nat.lt_irrefl _ (Nat.lt_of_lt_of_le hc' hit)
  case jst =>
    rintro U i ys h3 h4 k4 ⟨a1, a2, a3, ps, L3, a4⟩
    refine ⟨a1, a2, a3, ps, ⟨L3.lt.keep k4 a3 a2 a4, fun c hc => ⟨Nat.lt_of_lt_of_le (L3.ap c hc).1 k4.sz, (L3.ap c hc).2⟩, L3.ex⟩, a4⟩
  case turn =>
    rintro C acc i lb ys h3 k3 hC hacc hC' hacc' hwi hi ⟨v, rfl, hv⟩ ⟨a1, a2, a3, ps3, L3, a4⟩ S
    simp only [tests, if_true]
    rw [List.getElem?_toArray] at hv
    obtain ⟨bs, ebs, tv, rfl⟩ := paired_left pv2 hv
    have e1 : (octs ds).getD i [] = bs := by simp [List.getD, ebs]
    have obs := octs_ok ds i
    rw [e1] at obs
    have kh3 : KX ([it] ++ [161]) h h3 := (kh1.trans k2).any.trans k3
    have hHi : Hi ([it] ++ [161]) := fun a ha => by
      rcases List.mem_append.mp ha with ha | ha
      · cases List.mem_singleton.mp ha; exact .inl hit6
      · cases List.mem_singleton.mp ha; exact .inr (.inr rfl)
    repeat' walk_at "e"
    refine hw_Lambda2 L3.lt S.g.sz S.g.g (ba.at kh3 hHi (.inr (.inr rfl))) rfl rfl rfl rfl lawQual fun f h5 cv ctv ps5 k5 hf ho hcd L5 hps hex => ?_
    have hCl : 166 ≤ C := Nat.le_trans h166 (Nat.le_trans k2.sz hC)
    have S := S.callX k5 (fun a ha => ha) (fun hm => (low C hCl).1 (List.mem_singleton.mp hm)) (fun x c e => nomatch (show ([] : List (Str × Addr)).lookup x = some c from e))
    replace S : St mg mb [161] h3 [161] _ [((Str.ofString "row"), .bytes (byteArr bs) tv)] I h5 := S
    have LX5 : LX (lawW b) p0 ps5 h5 := ⟨L5, fun c hc => by
      rcases hps c hc with z | z
      · exact ⟨Nat.lt_of_lt_of_le (L3.ap c z).1 k5.sz, (L3.ap c z).2⟩
      · refine ⟨z.2, fun hm => ?_, Nat.le_trans (Nat.le_trans S0.g.sz kh3.sz) z.1⟩
        exact Nat.lt_irrefl _ (Nat.lt_of_lt_of_le (Nat.lt_of_lt_of_le (S0.wlt c hm) kh3.sz) z.1), app_ex L3.ex hex⟩
    have a5 : ∀ c ∈ codesOf ps5, c ∉ [C, acc, it] := fun c hc hm => by
      rcases hps c hc with z | z
      · exact a4 c z hm
      · have : c < h3.objs.size := by
          simp only [List.mem_cons, List.not_mem_nil, or_false] at hm
          rcases hm with e | e | e <;> rw [e]
          · exact hC'
          · exact hacc'
          · exact hwi it (.head _)
        exact Nat.lt_irrefl _ (Nat.lt_of_lt_of_le this z.1)
    repeat' walk_at "e"
    refine ⟨keep_tab S.g 12 rfl, ?_⟩
    refine reduceB (n := n + 2) (fun i v => ∃ t, v = .int (val256 (bs.take i) 0) t) OK S.g obs ⟨_, rfl⟩ (fun h' k => keep_fn (k.all _ _ ho)) ?step ?done
    case step =>
      rintro j acc' e t' A' h6 OK6 G6 k6 hj ⟨t, rfl⟩
      refine hw_lam (n := n + 1) (binds := [("number", _), ("octet", _)]) (I := fun _ => True) OK6 G6 (k6.all _ _ ho) rfl (code_call hcd k6) rfl (by exact rfl) (nocell rfl) (fun p hp => by rcases List.mem_cons.mp hp with rfl | hp; rfl; cases List.mem_singleton.mp hp; rfl) (by show (["number", "octet"] : List Str).Nodup; decide) trivial (DepIn.true _) rfl rfl rfl ?_ rfl rfl rfl
      intro A7 h7 OK7 S
      repeat' walk_at "e"
      refine hw_mul (.of_right (by decide)) fun _ => ?_
      repeat' walk_at "e"
      have ev : val256 (bs.take (j + 1)) 0 = val256 (bs.take j) 0 * 256 + e := by
        have : bs.take (j + 1) = bs.take j ++ [e] := by rw [List.take_add_one, hj]; rfl
        rw [this, val256_app]; rfl
      rw [ev]
      exact ⟨S.base, _, rfl⟩
    case done =>
      rintro h6 v k6 ⟨t, rfl⟩
      rw [List.take_length]
      refine ⟨k5.trans k6.any, ?_, a2, a3, ps5, LX5.call k6, a5⟩
      rw [List.range_succ]
      exact a1.snoc ⟨t, by rw [e1]⟩
  case fin =>
    rintro C acc ys h3 k3 hC hacc hne hl hm hy ⟨a1, a2, a3, ps3, L3, a4⟩
    with_reducible refine useC_none ?_
    intro h5 k5
    have hC6 : 166 ≤ C := Nat.le_trans h166 (Nat.le_trans k2.sz hC)
    have iy := paired_ints (f := fun i => val256 ((octs ds).getD i []) 0) a1
    rw [octs_val] at iy
    have Lacc : IL h5 acc (ds.map numOf ++ [0]) := ⟨ys, list_past hl k5 hne, iy⟩
    have k35 : KX ([it] ++ [161] ++ [C]) h h5 := ((kh1.trans k2).any.trans (k3.mono fun a ha => List.mem_append_left _ ha)).trans (k5.mono fun a ha => List.mem_append_right _ ha)
    have L5 : LX (lawW b) p0 ps3 h5 := ⟨L3.lt.keep k5 (fun hm => (low C hC6).2 (List.mem_singleton.mp hm).symm) (fun hm => (low C hC6).1 (List.mem_singleton.mp hm).symm) (fun c hc hm => a4 c hc (by cases List.mem_singleton.mp hm; exact .head _)), fun c hc => ⟨Nat.lt_of_lt_of_le (L3.ap c hc).1 k5.sz, (L3.ap c hc).2⟩, L3.ex⟩
    have hS : St mg mb X B (lawW b) (lawEnv b) [("octets", .ref oc), ("rows", .ref rw'), ("places", .ref pl), ("digits", .ref dg), ("numbers", .ref nu), ("drawn", .ref dr), ("script", .ref 165)] I h5 := by
      have old : ∀ a, a < h.objs.size → a ≠ 161 → a ∉ [it] ++ [161] ++ [C] := fun a ha h1 hm => by
        simp only [List.mem_append, List.mem_cons, List.not_mem_nil, or_false] at hm
        rcases hm with (e | e) | e
        · exact Nat.lt_irrefl _ (Nat.lt_of_lt_of_le (e ▸ ha) (Nat.le_trans kh1.sz hit))
        · exact h1 e
        · exact Nat.lt_irrefl _ (Nat.lt_of_lt_of_le (e ▸ ha) (Nat.le_trans kh1.sz (Nat.le_trans k2.sz hC)))
      refine S0.turn k35 (fun a ha => ?_) (fun a ha => ?_) ?_ ?_ ?_ dD ?_
      · simp only [List.mem_append, List.mem_cons, List.not_mem_nil, or_false] at ha
        rcases ha with (e | e) | e
        · exact .inl (e ▸ hit6)
        · exact .inr (.inr e)
        · exact .inl (e ▸ hC6)
      · simp only [List.mem_append, List.mem_cons, List.not_mem_nil, or_false] at ha
        rcases ha with (e | e) | e
        · exact .inl (e ▸ Nat.le_trans S0.base.sz (Nat.le_trans kh1.sz hit))
        · exact .inr (e ▸ hX)
        · exact .inl (e ▸ Nat.le_trans S0.base.sz (Nat.le_trans kh1.sz (Nat.le_trans k2.sz hC)))
      · exact old b (S0.wlt b (.head _)) (low b hb).1
      · exact fun y c e => old c (S0.cells_lt e) (cells_ne y c e)
      · exact dD _ (fun a ha hd => old a (hD a hd).1 (hD a hd).2.2 ha) _ _ k35 S0.imm
      · exact fun a ha => ⟨Nat.lt_of_lt_of_le (hD a ha).1 k35.sz, (hD a ha).2.1⟩
    have S := hS
    repeat' walk_at "e"
    refine hw_ilNew (ns := [0]) (.cons _ _ .nil) (by show 1 ≤ sizeLine; decide) fun z1 h6 k6 hz1 Z1 => ?_
    have S := S.call k6
    refine hw_ilAdd (f3 _ S.imm) Z1 (by rw [List.length_map]; simp only [List.length_cons, List.length_nil, sizeLine]; lia) fun z2 h7 k7 hz2 Z2 => ?_
    have S := S.call k7
    refine hw_ilNe (n := n + 2) OK ((Lacc.call k6).call k7) Z2 ?_
    rw [decide_eq_true rfl]
    show hw (model prog w) A (truthy (.bool false)) _ h7
    repeat' walk_at "e"
    exact q _ _ ((L5.call k6).call k7) S

end
end

-- F11
section
open PySem PySem.W PyProof.Rows PySem.Calls
section
variable {prog : Program} {w : World} {A : Around} {mg mb : Str → Option Value} {X : List Addr} {B : Heap} {I : Heap → Prop} {h : Heap} {b : Nat}

noncomputable def wrI (ds : List Int) (i : Nat) : List Int := (signsOf (rowI ds i)).map fun (c : Nat) => (c : Int)
theorem law8 {oc : Addr} {ds : List Int} {Q : Flow → Heap → Prop} {n : Nat} {l : List (Str × Value)} (OK : Ok A (n + 3)) (f5 : ∀ h, I h → Bts h oc ((List.range ds.length).map (octI ds))) (hn : ds.length ≤ 11) (hl : Dr "written" (("octets", .ref oc) :: l) (("octets", .ref oc) :: l)) (S : St mg mb X B (lawW b) (lawEnv b) (("octets", .ref oc) :: l) I h)
    (q : ∀ h' wr, h.objs.size ≤ wr → St mg mb X B (lawW b) (lawEnv b) (("written", .ref wr) :: ("octets", .ref oc) :: l) (fun h => Bts h wr ((List.range ds.length).map (wrI ds)) ∧ I h) h' → Q .next h') :
    hw (model prog w) A (exec (lawSt 7) (lawEnv b)) Q h := by
  obtain ⟨vs, hlo, pv⟩ := f5 _ S.imm
  have lv : vs.length = ds.length := by rw [paired_len pv]; simp
  refine hw_Assign_ListComp rfl rfl rfl rfl ?_ (fun _ => rfl)
  repeat' walk_at "e"
  refine hw_iter_list hlo fun it h2 k2 hit hne hlt I2 L2 => ?_
  have T := itr_list (prog := prog) (w := w) (items := vs.toArray) hne
  have es : vs.toArray.size = ds.length := by rw [List.size_toArray, lv]
  rw [es] at T
  refine hs_mapV [] (fun _ => true) (fun i v => ∃ t, v = .bytes (byteArr (wrI ds i)) t) OK.hd S rfl rfl rfl rfl rfl (by walk_at "cl") (by walk_at "lc") T ⟨I2, L2⟩ k2 (fun a ha => by rcases List.mem_cons.mp ha with rfl | ha; exact hlt; cases List.mem_singleton.mp ha; exact list_lt L2) (by simp only [sizeLine]; lia) (fun a ha => by cases List.mem_singleton.mp ha; exact hit) ?turn ?fin
  case turn =>
    rintro C i v h4 k4 hi4 hv S
    refine ⟨rfl, ?_⟩
    rw [List.getElem?_toArray] at hv
    obtain ⟨bs, ebs, tv, rfl⟩ := paired_left pv hv
    have eb : bs = octI ds i := by
      rw [List.getElem?_map, List.getElem?_range hi4] at ebs
      exact (Option.some.inj ebs).symm
    subst eb
    obtain ⟨o1, o2, o3, o4⟩ := octI_spec ds i
    repeat' walk_at "e"
    refine ⟨keep_tab S.g 8 rfl, ?_⟩
    refine b64encode (n := n) OK S.g o1 o2 fun h7 t k7 => ?_
    rw [o4]
    exact ⟨S.base.trans k7, _, rfl⟩
  case fin =>
    intro C wr ys h4 k4 hC hdg hneC hl4 hm pr
    rw [filter_true] at pr
    have hoW := S.new hdg
    refine useC_store (a := b) S k4 hC hm rfl (.head _) hl fun h5 k5 S5 => ?_
    have B5 : Bts h5 wr ((List.range ds.length).map (wrI ds)) := ⟨ys, list_keep hl4 k5 (fun hm => by
      simp only [List.mem_cons, List.not_mem_nil, or_false] at hm
      rcases hm with e | e
      · exact hoW (e ▸ .head _)
      · exact hneC e.symm), paired_bts pr⟩
    exact q _ _ hdg (S5.add B5 (Dep.bts wr _) fun a ha => by cases List.mem_singleton.mp ha; exact ⟨B5.lt, hoW⟩)
/-! ## lists of bools -/
noncomputable def BD (n : Nat) : PyData := .list (List.replicate n (.bool true))
theorem canLay_bools : ∀ n : Nat, PyData.canLayAll0 (List.replicate n (PyData.bool true)) = true
  | 0 => rfl
  | n + 1 => by rw [List.replicate_succ]; simp only [PyData.canLayAll0, PyData.canLay0, canLay_bools n, Bool.and_self]
theorem depth_bools : ∀ n : Nat, PyData.depthAll (List.replicate n (PyData.bool true)) ≤ 1
  | 0 => by simp [PyData.depthAll]
  | n + 1 => by rw [List.replicate_succ]; simp only [PyData.depthAll]; have := depth_bools n; simp only [PyData.depth]; lia
theorem canLay_bd (n : Nat) : (BD n).canLay0 = true := by simp only [BD, PyData.canLay0, canLay_bools]
theorem depth_bd (n : Nat) : (BD n).depth ≤ 2 := by simp only [BD, PyData.depth]; have := depth_bools n; lia
theorem rd_bools {h : Heap} {a : Addr} {n : Nat} (hl : h.IsList a (List.replicate n (Value.bool true)).toArray) : Rd h (.ref a) (BD n) := by
  refine rd_list hl ?_
  clear hl
  induction n with
  | zero => exact .nil
  | succ n ih => rw [List.replicate_succ, List.replicate_succ]; exact .cons ⟨_, .bool true⟩ ih
theorem paired_trues : ∀ {n : Nat} {ys : List Value}, Paired (fun _ v => v = Value.bool true) (List.range n) ys → ys = List.replicate n (.bool true) := by
  intro n ys p
  have gen : ∀ {is : List Nat} {ys : List Value}, Paired (fun _ v => v = Value.bool true) is ys → ys = List.replicate is.length (.bool true) := by
    intro is ys p
    induction p with
    | nil => rfl
    | cons e _ ih => rw [e, ih, List.length_cons, List.replicate_succ]
  simpa using gen p

end
end

-- F12
section
open PySem PySem.W PyProof.Rows PySem.Calls
section
variable {prog : Program} {w : World} {A : Around} {mg mb : Str → Option Value} {X : List Addr} {B : Heap} {I : Heap → Prop} {h : Heap} {b : Nat}

theorem law9 {oc wr rw' : Addr} {rs : List Addr} {ds : List Int} {b1 b2 : List (List Int)} {Q : Flow → Heap → Prop} {n : Nat} {l : List (Str × Value)} (OK : Ok A (n + 3)) (f4 : ∀ h, I h → Rws h rw' rs (rowsOf ds)) (f5 : ∀ h, I h → Bts h oc b1) (f6 : ∀ h, I h → Bts h wr b2) (n1 : b1.length = ds.length) (n2 : b2.length = ds.length) (hn : ds.length ≤ 11) (S : St mg mb X B (lawW b) (lawEnv b) (("written", .ref wr) :: ("octets", .ref oc) :: ("rows", .ref rw') :: l) I h)
    (q : ∀ h', St mg mb X B (lawW b) (lawEnv b) (("written", .ref wr) :: ("octets", .ref oc) :: ("rows", .ref rw') :: l) I h' → Q .next h') :
    hw (model prog w) A (exec (lawSt 8) (lawEnv b)) Q h := by
  have rl : rs.length = ds.length := by rw [(f4 _ S.imm).len]; simp [rowsOf]
  obtain ⟨v1, hl1, p1⟩ := f5 _ S.imm
  obtain ⟨v2, hl2, p2⟩ := f6 _ S.imm
  have lv1 : v1.length = ds.length := by rw [paired_len p1, n1]
  have lv2 : v2.length = ds.length := by rw [paired_len p2, n2]
  have isB : ∀ v ∈ v1 ++ v2, ∃ x t, v = Value.bytes x t := fun v hv => by
    rcases List.mem_append.mp hv with hv | hv
    · obtain ⟨i, hi⟩ := List.mem_iff_getElem?.mp hv
      obtain ⟨bs, _, t, e⟩ := paired_left p1 hi
      exact ⟨_, t, e⟩
    · obtain ⟨i, hi⟩ := List.mem_iff_getElem?.mp hv
      obtain ⟨bs, _, t, e⟩ := paired_left p2 hi
      exact ⟨_, t, e⟩
  refine hw_If ?_
  refine hw_isTrue_Compare ?_ (by with_unfolding_all rfl)
  refine hw_ListComp rfl rfl rfl ?_ (fun _ => rfl)
  repeat' walk_at "e"
  refine hw_add_list hl1 hl2 (by rw [List.size_toArray, List.size_toArray]; simp only [sizeLine]; lia) fun l2 h1 k1 hl2 hl2' E2 => ?_
  have S := S.call k1
  have E2' : h1.IsList l2 (v1 ++ v2).toArray := by simpa using E2
  have lvs : (v1 ++ v2).length = 2 * ds.length := by rw [List.length_append]; lia
  generalize v1 ++ v2 = vs at E2' isB lvs
  refine hw_iter_list E2' fun it h2 k2 hit hne hlt I2 L2 => ?_
  have T := itr_list (prog := prog) (w := w) (items := vs.toArray) hne
  have es : vs.toArray.size = 2 * ds.length := by rw [List.size_toArray, lvs]
  rw [es] at T
  refine hs_mapV [] (fun _ => true) (fun _ v => v = .bool true) OK.hd S rfl rfl rfl rfl rfl (by walk_at "cl") (by walk_at "lc") T ⟨I2, L2⟩ k2 (fun a ha => by rcases List.mem_cons.mp ha with rfl | ha; exact hlt; cases List.mem_singleton.mp ha; exact list_lt L2) (by simp only [sizeLine]; lia) (fun a ha => by cases List.mem_singleton.mp ha; exact hit) ?turn ?fin
  case turn =>
    rintro C i v h4 k4 hi4 hv S
    refine ⟨rfl, ?_⟩
    rw [List.getElem?_toArray] at hv
    obtain ⟨x, t, rfl⟩ := isB v (List.mem_of_getElem? hv)
    repeat' walk_at "e"
    refine hw_type (fun s _ => typeIs_bytes s _ _) rfl ?_
    repeat' walk_at "e"
    exact ⟨S.base, rfl⟩
  case fin =>
    intro C acc ys h4 k4 hC hdg hneC hl4 hm pr
    with_reducible refine useC_none ?_
    intro h5 k5
    rw [filter_true] at pr
    have ey := paired_trues pr
    have R5 := rd_bools (ey ▸ list_past hl4 k5 hneC)
    have L5 : h5.IsList acc ys.toArray := list_past hl4 k5 hneC
    have S := S.past k4 k5 hC
    repeat' walk_at "e"
    refine hw_newList (by show 1 ≤ sizeLine; decide) fun e1 h6 k6 _ _ E1 => ?_
    repeat' walk_at "e"
    refine hw_mul_list E1 (by decide) (by decide) (by decide) fun e2 h7 k7 _ _ E2 => ?_
    have S := (S.call k6).call k7
    repeat' walk_at "e"
    refine hw_len (f4 _ S.imm).1 (by rw [List.size_toArray, List.length_map, rl]; lia) fun t8 => ?_
    rw [List.size_toArray, List.length_map, rl]
    refine hw_mul_list E2 (by lia) (by lia) (by decide) fun e3 h8 k8 _ _ E3 => ?_
    have S := S.call k8
    have E3' : h8.IsList e3 (List.replicate (2 * ds.length) (Value.bool true)).toArray := by
      have : (List.replicate (ds.length : Int).toNat ((List.replicate (2 : Int).toNat [Value.bool true]).flatten.toArray).toList).flatten = List.replicate (2 * ds.length) (Value.bool true) := by
        show (List.replicate (ds.length : Int).toNat (List.replicate 2 (Value.bool true))).flatten = _
        rw [Int.toNat_natCast, List.flatten_replicate_replicate, Nat.mul_comm]
      rw [this] at E3
      exact E3
    subst ey
    refine hw_neSame (n := n + 2) OK (rd_bools (list_keep (list_keep (list_keep L5 k6 fun hm => nomatch hm) k7 fun hm => nomatch hm) k8 fun hm => nomatch hm)) (rd_bools E3') (canLay_bd _) (Nat.le_trans (depth_bd _) (by decide)) ?_
    repeat' walk_at "e"
    exact q _ S

end
end

-- F13
section
open PySem PySem.W PyProof.Rows PySem.Calls
section
variable {prog : Program} {w : World} {A : Around} {mg mb : Str → Option Value} {X : List Addr} {B : Heap} {I : Heap → Prop} {h : Heap} {b : Nat}

/-- texts -/
noncomputable def SD (xs : List (List Nat)) : PyData := .list (xs.map fun x => .str (tx x))
theorem canLay_sd : ∀ xs : List (List Nat), (∀ x ∈ xs, ∀ c ∈ x, c < 128) → PyData.canLayAll0 (xs.map fun x => PyData.str (tx x)) = true
  | [], _ => rfl
  | x :: r, h => by
    have e : PyData.strOk (tx x) = true := by
      unfold PyData.strOk tx
      rw [List.all_toArray, List.all_eq_true]
      intro c hc
      have := h x (.head _) c hc
      simp; lia
    simp only [List.map_cons, PyData.canLayAll0, PyData.canLay0, canLay_sd r (fun y hy => h y (.tail _ hy)), e, Bool.and_self]
theorem depth_sd : ∀ xs : List (List Nat), PyData.depthAll (xs.map fun x => PyData.str (tx x)) ≤ 1
  | [] => by simp [PyData.depthAll]
  | _ :: r => by simp only [List.map_cons, PyData.depthAll]; have := depth_sd r; simp only [PyData.depth]; lia
theorem paired_sd {h : Heap} {f : Nat → List Nat} {is : List Nat} {ys : List Value} (p : Paired (fun i v => ∃ t, v = Value.str (tx (f i)) t) is ys) : Paired (Rd h) ys ((is.map f).map fun x => PyData.str (tx x)) := by
  rw [List.map_map]
  exact paired_turn _ (fun _ _ x => x.elim fun t e => e ▸ ⟨_, .str _ t⟩) p
theorem law10 {wr rw' : Addr} {rs : List Addr} {ds : List Int} {Q : Flow → Heap → Prop} {n : Nat} {l : List (Str × Value)} {oc : Value} (OK : Ok A (n + 3)) (f4 : ∀ h, I h → Rws h rw' rs (rowsOf ds)) (f6 : ∀ h, I h → Bts h wr ((List.range ds.length).map (wrI ds))) (hn : ds.length ≤ 11) (S : St mg mb X B (lawW b) (lawEnv b) (("written", .ref wr) :: ("octets", oc) :: ("rows", .ref rw') :: l) I h)
    (q : ∀ h', St mg mb X B (lawW b) (lawEnv b) (("written", .ref wr) :: ("octets", oc) :: ("rows", .ref rw') :: l) I h' → Q .next h') :
    hw (model prog w) A (exec (lawSt 9) (lawEnv b)) Q h := by
  have lr : (rowsOf ds).length = ds.length := by simp [rowsOf]
  have rl : rs.length = ds.length := by rw [(f4 _ S.imm).len, lr]
  obtain ⟨vs, hlo, pv⟩ := f6 _ S.imm
  have lv : vs.length = ds.length := by rw [paired_len pv]; simp
  refine hw_If ?_
  refine hw_isTrue_Compare ?_ (by with_unfolding_all rfl)
  refine hw_ListComp rfl rfl rfl ?_ (fun _ => rfl)
  repeat' walk_at "e"
  refine hw_iter_list hlo fun it h2 k2 hit hne hlt I2 L2 => ?_
  have T := itr_list (prog := prog) (w := w) (items := vs.toArray) hne
  have es : vs.toArray.size = ds.length := by rw [List.size_toArray, lv]
  rw [es] at T
  refine hs_mapV [] (fun _ => true) (fun i v => ∃ t, v = .str (tx (signsOf (rowI ds i))) t) OK.hd S rfl rfl rfl rfl rfl (by walk_at "cl") (by walk_at "lc") T ⟨I2, L2⟩ k2 (fun a ha => by rcases List.mem_cons.mp ha with rfl | ha; exact hlt; cases List.mem_singleton.mp ha; exact list_lt L2) (by simp only [sizeLine]; lia) (fun a ha => by cases List.mem_singleton.mp ha; exact hit) ?turn ?fin
  case turn =>
    rintro C i v h4 k4 hi4 hv S
    refine ⟨rfl, ?_⟩
    rw [List.getElem?_toArray] at hv
    obtain ⟨bs, ebs, tv, rfl⟩ := paired_left pv hv
    have eb : bs = wrI ds i := by
      rw [List.getElem?_map, List.getElem?_range hi4] at ebs
      exact (Option.some.inj ebs).symm
    subst eb
    have rlen := rowI_len ds i
    obtain ⟨s1, s2⟩ := signs_ok (ns := rowI ds i) (by lia)
    have wl : (wrI ds i).length = 12 := by unfold wrI; rw [List.length_map, s1]
    have wok : ∀ n ∈ wrI ds i, 0 ≤ n ∧ n < 256 := fun n hn => by
      obtain ⟨c, hc, rfl⟩ := List.mem_map.mp hn
      have := (s2 c hc).1
      lia
    have wget : ∀ j, j < 12 → ((wrI ds i).getD j 0).toNat = (signsOf (rowI ds i)).getD j 0 ∧ 0 ≤ (wrI ds i).getD j 0 ∧ (wrI ds i).getD j 0 < 256 := fun j hj => by
      have e : (wrI ds i)[j]? = some (((signsOf (rowI ds i)).getD j 0 : Nat) : Int) := by
        unfold wrI
        rw [List.getElem?_map, List.getElem?_eq_getElem (by lia)]
        simp [List.getD, s1, hj]
      have := wok _ (List.mem_of_getElem? e)
      rw [List.getD, e]
      exact ⟨by simp, this.1, this.2⟩
    refine hw_tt ?_
    refine hw_method1 (T := "str") (id := "str.join") ?_ F.plainAttrs_str F.slot_str_join F.type_str_join rfl rfl rfl
    repeat' walk_at "e"
    refine ⟨fun s _ => typeIs_str s _ _, (fun a e => nomatch e), ?_⟩
    refine hw_callWith1 ?_
    refine hw_ListComp rfl rfl rfl ?_ (fun _ => rfl)
    repeat' walk_at "e"
    refine hw_iter_bytes fun it2 h5 k5 hit2 hit2' I5 => ?_
    have T2 := itr_bytes (prog := prog) (w := w) (it := it2) (t := tv) wok
    rw [wl] at T2
    refine hs_mapV [] (fun _ => true) (fun k v => ∃ t, v = .str (tx [(signsOf (rowI ds i)).getD k 0]) t) OK.hd S rfl rfl rfl rfl rfl (by walk_at "cl") (by walk_at "lc") T2 ⟨Nat.zero_le _, I5⟩ k5 (fun a ha => by cases List.mem_singleton.mp ha; exact hit2') (by decide) (fun a ha => by cases List.mem_singleton.mp ha; exact hit2) ?turn2 ?fin2
    case turn2 =>
      rintro C2 j v h6 k6 hj ⟨t, rfl⟩ S
      refine ⟨rfl, ?_⟩
      obtain ⟨w1, w2, w3⟩ := wget j hj
      repeat' walk_at "e"
      refine hw_chr w2 (by lia) fun t => ?_
      rw [w1]
      exact ⟨S.base, _, rfl⟩
    case fin2 =>
      intro C2 acc2 ys2 h6 k6 hC2 hac2 hneC2 hl6 hm6 pr2
      with_reducible refine useC_none ?_
      intro h7 k7
      rw [filter_true] at pr2
      have ps := paired_strs (f := fun k => (signsOf (rowI ds i)).getD k 0) pr2
      have em : (List.range 12).map (fun k => (signsOf (rowI ds i)).getD k 0) = signsOf (rowI ds i) := by
        rw [← s1]; exact map_getD' (fun x => x) 0 _ |>.trans (List.map_id _)
      rw [em] at ps
      have hl7 := list_past hl6 k7 hneC2
      refine ⟨keep_builtin _, ?_⟩
      refine hw_join (cs := signsOf (rowI ds i)) hl7 (by simpa using ps) (by lia) fun t => ?_
      exact ⟨S.base.trans (KX.past k6 k7 hC2), _, rfl⟩
  case fin =>
    intro C acc ys h4 k4 hC hdg hneC hl4 hm pr
    with_reducible refine useC_none ?_
    intro h5 k5
    rw [filter_true] at pr
    have R5 : Rd h5 (.ref acc) (SD ((List.range ds.length).map fun i => signsOf (rowI ds i))) := rd_list (list_past hl4 k5 hneC) (paired_sd pr)
    have L5 : h5.IsList acc ys.toArray := list_past hl4 k5 hneC
    have S := S.past k4 k5 hC
    refine hw_ListComp rfl rfl rfl ?_ (fun _ => rfl)
    repeat' walk_at "e"
    refine hw_iter_list (f4 _ S.imm).1 fun it2 h6 k6 hit2 hne2 hlt2 I6 L6 => ?_
    have T2 := itr_list (prog := prog) (w := w) (items := (rs.map Value.ref).toArray) hne2
    have es2 : (rs.map Value.ref).toArray.size = ds.length := by rw [List.size_toArray, List.length_map, rl]
    rw [es2] at T2
    refine hs_mapV [] (fun _ => true) (fun i v => ∃ t, v = .str (tx (signsOf (rowI ds i))) t) OK.hd S rfl rfl rfl rfl rfl (by walk_at "cl") (by walk_at "lc") T2 ⟨I6, L6⟩ k6 (fun a ha => by rcases List.mem_cons.mp ha with rfl | ha; exact hlt2; cases List.mem_singleton.mp ha; exact list_lt L6) (by simp only [sizeLine]; lia) (fun a ha => by cases List.mem_singleton.mp ha; exact hit2) ?turn3 ?fin3
    case turn3 =>
      rintro C2 i v h7 k7 hi7 hv S
      refine ⟨rfl, ?_⟩
      obtain ⟨a, ea, La, er⟩ := (f4 _ S.imm).at (i := i) (by rw [lr]; exact hi7)
      rw [List.getElem?_toArray, er] at hv
      cases hv
      have e1 : (rowsOf ds).getD i [] = rowI ds i := by simp [List.getD, rowsOf, rowI, hi7]
      rw [e1] at La
      have rlen := rowI_len ds i
      repeat' walk_at "e"
      refine ⟨keep_tab S.g 15 rfl, ?_⟩
      refine lawSigns (n := n + 1) OK S.g La (by lia) fun h8 t k8 => ?_
      exact ⟨S.base.trans k8, _, rfl⟩
    case fin3 =>
      intro C2 acc2 ys2 h7 k7 hC2 hac2 hneC2 hl7 hm7 pr2
      with_reducible refine useC_none ?_
      intro h8 k8
      rw [filter_true] at pr2
      have R8 : Rd h8 (.ref acc2) (SD ((List.range ds.length).map fun i => signsOf (rowI ds i))) := rd_list (list_past hl7 k8 hneC2) (paired_sd pr2)
      have R8' : Rd h8 (.ref acc) (SD ((List.range ds.length).map fun i => signsOf (rowI ds i))) := rd_list (list_keep L5 (KX.past k7 k8 hC2) fun hm => nomatch hm) (paired_sd pr)
      have S := S.past k7 k8 hC2
      refine hw_neSame (n := n + 2) OK R8' R8 (by simp only [SD, PyData.canLay0]; exact canLay_sd _ fun x hx c hc => by obtain ⟨i, _, rfl⟩ := List.mem_map.mp hx; have rlen := rowI_len ds i; exact ((signs_ok (ns := rowI ds i) (by lia)).2 c hc).1) (by simp only [SD, PyData.depth]; have := depth_sd ((List.range ds.length).map fun i => signsOf (rowI ds i)); lia) ?_
      repeat' walk_at "e"
      exact q _ S

end
end

-- F14
section
open PySem PySem.W PyProof.Rows PySem.Calls
section
variable {prog : Program} {w : World} {A : Around} {mg mb : Str → Option Value} {X : List Addr} {B : Heap} {I : Heap → Prop} {h : Heap} {b : Nat}

/-- an iterator of a list of pairs -/
noncomputable def PP (it l : Addr) (as : List Addr) (prs : List (Int × Int)) (i : Nat) (h : Heap) : Prop := h.IsListIter it l i ∧ h.IsList l (as.map Value.ref).toArray ∧ Paired (fun a p => IL h a [p.1, p.2]) as prs
theorem pairs_keep {h h' : Heap} {U : List Addr} (k : KX U h h') {as : List Addr} {prs : List (Int × Int)} (hu : ∀ a ∈ as, a ∉ U) (p : Paired (fun a p => IL h a [p.1, p.2]) as prs) : Paired (fun a p => IL h' a [p.1, p.2]) as prs := paired_impL (fun a ha _ x => x.keep k (hu a ha)) p
theorem pairs_lt {h : Heap} {as : List Addr} {prs : List (Int × Int)} (p : Paired (fun a p => IL h a [p.1, p.2]) as prs) : ∀ a ∈ as, a < h.objs.size := paired_all (fun _ _ x => x.lt) p
theorem itr_pairs {it l : Addr} {as : List Addr} {prs : List (Int × Int)} (hne : it ≠ l) (hna : it ∉ as) :
    ItrT (model prog w) (.ref it) (it :: l :: as) [it] as.length (fun i v h => (∃ a p, v = .ref a ∧ prs[i]? = some p ∧ IL h a [p.1, p.2]) ∧ PP it l as prs (i + 1) h) (PP it l as prs) where
  next := fun A i h hA p => by
    have T := itr_list (prog := prog) (w := w) (items := (as.map Value.ref).toArray) hne
    refine hw_mono (T.next A i h hA ⟨p.1, p.2.1⟩) fun r h' ⟨k, z⟩ => ⟨k, ?_⟩
    have e : (as.map Value.ref).toArray.size = as.length := by simp
    rw [e] at z
    refine z.imp id fun ⟨v, e1, z1, z2, z3, z4⟩ => ⟨v, e1, z1, ?_⟩
    have pr := pairs_keep k (fun a ha hm => hna (List.mem_singleton.mp hm ▸ ha)) p.2.2
    rw [List.getElem?_toArray, List.getElem?_map, List.getElem?_eq_getElem z1] at z2
    obtain ⟨q, eq, il⟩ := paired_left pr (List.getElem?_eq_getElem z1)
    exact ⟨⟨as[i], q, (Option.some.inj z2).symm, eq, il⟩, z3, z4, pr⟩
  iter := fun A i h p => (itr_list (prog := prog) (w := w) (items := (as.map Value.ref).toArray) hne).iter A i h ⟨p.1, p.2.1⟩
  stab := fun U hu i h h' k p => ⟨listiter_keep p.1 k fun hm => hu _ hm (.head _), list_keep p.2.1 k fun hm => hu _ hm (.tail _ (.head _)), pairs_keep k (fun a ha hm => hu a hm (.tail _ (.tail _ ha))) p.2.2⟩
  wid := fun a ha => by cases List.mem_singleton.mp ha; exact .head _
theorem PP.lt {it l : Addr} {as : List Addr} {prs : List (Int × Int)} {i : Nat} {h : Heap} (p : PP it l as prs i h) : ∀ a ∈ it :: l :: as, a < h.objs.size := fun a ha => by
  rcases List.mem_cons.mp ha with rfl | ha
  · exact listiter_lt p.1
  · rcases List.mem_cons.mp ha with rfl | ha
    · exact list_lt p.2.1
    · exact pairs_lt p.2.2 a ha
theorem asg_pairs {x y : Str} {px py tp : Pos} {kk : Nat} {scope : Scope} {cl : List (Str × Addr)} {env : Env} {it l : Addr} {as : List Addr} {prs : List (Int × Int)} {n : Nat} {h₂ : Heap} (hA : A.handled = none) (hkind : scope.kind = .function) (hx : scope.names.lookup x = some .local) (hy : scope.names.lookup y = some .local) (hxy : x ≠ y) (hD : ∀ a ∈ it :: l :: as, a < h₂.objs.size) :
    ∀ C i v h m, h₂.objs.size ≤ C → i < n → h.Ns C m → ((∃ a p, v = .ref a ∧ prs[i]? = some p ∧ IL h a [p.1, p.2]) ∧ PP it l as prs (i + 1) h) → hw (model prog w) A (letOwnedTupleGo (.Tuple [.Name x px, .Name y py] kk tp) (.ref it) v >>= fun _ => assign (.Tuple [.Name x px, .Name y py] kk tp) (compEnvC scope cl C env) v)
      (fun _ h' => KX (C :: [it]) h h' ∧ PP it l as prs (i + 1) h' ∧ ∃ lb m', h'.Ns C m' ∧ (∀ p ∈ lb, scope.names.lookup p.1 = some .local ∧ m' p.1 = some p.2) ∧ ∃ p t u, prs[i]? = some p ∧ lb = [(x, .int p.1 t), (y, .int p.2 u)]) h := by
  rintro C i v h m hC hi hm ⟨⟨a, p, rfl, ep, il⟩, pp⟩
  obtain ⟨t, u, n', dd, sl, ho⟩ := pair_of il
  refine hw_bind (fun s e => ?_)
  subst e
  refine wpAny_letOwnedTupleGo_listiter pp.1 ⟨Sm.refl s, ?_⟩
  refine hw_mono (comp_pair hA hkind hx hy hxy hm (.inr ⟨_, ho, rfl, n', rfl⟩)) fun _ h2 ⟨k2, m', n2, m1, m2⟩ => ⟨k2.mono fun a ha => by cases List.mem_singleton.mp ha; exact .head _, ?_, [(x, .int p.1 t), (y, .int p.2 u)], m', n2, ?_, p, t, u, ep, rfl⟩
  · have no : ∀ a ∈ it :: l :: as, a ∉ [C] := fun a ha hm => Nat.lt_irrefl _ (Nat.lt_of_lt_of_le (hD a ha) (List.mem_singleton.mp hm ▸ hC))
    exact ⟨listiter_keep pp.1 k2 (no it (.head _)), list_keep pp.2.1 k2 (no l (.tail _ (.head _))), pairs_keep k2 (fun a ha => no a (.tail _ (.tail _ ha))) pp.2.2⟩
  · intro p hp
    rcases List.mem_cons.mp hp with rfl | hp
    · exact ⟨hx, m1⟩
    · cases List.mem_singleton.mp hp
      exact ⟨hy, m2⟩
theorem paired_pick {h : Heap} {as : List Addr} {prs : List (Int × Int)} (pr : Paired (fun a p => IL h a [p.1, p.2]) as prs) : ∀ (is : List Nat), (∀ i ∈ is, i < as.length) → Paired (fun a p => IL h a [p.1, p.2]) (is.map fun i => as.getD i 0) (is.map fun i => prs.getD i (0, 0))
  | [], _ => .nil
  | i :: r, hi => by
    have h0 := hi i (.head _)
    obtain ⟨q, eq, il⟩ := paired_left pr (List.getElem?_eq_getElem h0)
    refine .cons ?_ (paired_pick pr r fun j hj => hi j (.tail _ hj))
    have e1 : as.getD i 0 = as[i] := by simp [List.getD, h0]
    have e2 : prs.getD i (0, 0) = q := by rw [List.getD, eq]; rfl
    show IL h (as.getD i 0) [(prs.getD i (0, 0)).1, (prs.getD i (0, 0)).2]
    rw [e1, e2]; exact il
noncomputable def numKey (ds : List Int) (i : Nat) : Int := numOf (ds.getD i 0) * 64 + i
noncomputable def prsOf (ds : List Int) : List (Int × Int) := (List.range ds.length).map fun (i : Nat) => (numOf (ds.getD i 0), (i : Int))
theorem prs_get {ds : List Int} {i : Nat} {p : Int × Int} (e : (prsOf ds)[i]? = some p) : i < ds.length ∧ p = (numOf (ds.getD i 0), (i : Int)) := by
  have hi : i < ds.length := by have := (List.getElem?_eq_some_iff.mp e).1; simpa [prsOf] using this
  unfold prsOf at e
  rw [List.getElem?_map, List.getElem?_range hi] at e
  exact ⟨hi, (Option.some.inj e).symm⟩
theorem numKey_lt {ds : List Int} (hn : ds.length ≤ 11) {i j : Nat} (hi : i < ds.length) (hj : j < ds.length) : (numKey ds i < numKey ds j) ↔ (numOf (ds.getD i 0) < numOf (ds.getD j 0) ∨ (numOf (ds.getD i 0) = numOf (ds.getD j 0) ∧ (i : Int) < (j : Int))) := by
  unfold numKey; lia

end
end

-- F15
section
open PySem PySem.W PyProof.Rows PySem.Calls
section
variable {prog : Program} {w : World} {A : Around} {mg mb : Str → Option Value} {X : List Addr} {B : Heap} {I : Heap → Prop} {h : Heap} {b : Nat}

/-- what cmp_to_key's call leans on -/
structure CK (mg mb : Str → Option Value) (nm : Value) (pk : Array Value) (h : Heap) : Prop where
  ba : BA mg h
  nm_ : mg "__name__" = some nm
  ob : mg "object" = none ∧ mb "object" = some (.type "object")
  bc : mb "__build_class__" = some (.builtin "__build_class__")
  tab : CodeHd h 115 111 ∧ h.get? 111 = some (tabObj pk) ∧ TriplesOk pk.toList ∧ codeAmong kPos pk.toList = none
  sys : ∃ mc, h.Ns 2 mc ∧ mc "sys.recursionlimit" = none ∧ mc "thirdparty.any" = none
theorem CK.keep {nm : Value} {pk : Array Value} {h h' : Heap} {U : List Addr} (x : CK mg mb nm pk h) (k : KX U h h') (hU : ∀ a ∈ U, 166 ≤ a ∨ a = 161) : CK mg mb nm pk h' := by
  have no : ∀ a, a < 166 → a ≠ 161 → a ∉ U := fun a h1 h2 hm => (hU a hm).elim (fun z => absurd h1 (Nat.not_lt.mpr z)) h2
  obtain ⟨⟨bm, o, a1, a2, a3, a4, a5, a6, a7, a8⟩, b, c, d, ⟨⟨o', vs, file, tf, flags, tg, inF, text, tt, e, r⟩, f, g⟩, ⟨mc, i, j⟩⟩ := x
  exact ⟨⟨bm, o, a1, a2, a3, a4, a5, a6, k.keep _ _ (no bm a4 a6) a7, a8⟩, b, c, d, ⟨⟨o', vs, file, tf, flags, tg, inF, text, tt, k.keep _ _ (no 115 (by decide) (by decide)) e, r⟩, k.keep _ _ (no 111 (by decide) (by decide)) f, g⟩, ⟨mc, ns_keep i k (no 2 (by decide) (by decide)), j⟩⟩
/-- the class and what it compares by -/
noncomputable def Kf (k : KIx) (C : Addr) (nm : Value) (h : Heap) : Prop := KAt k C nm h ∧ h.IsCell k.cl (some (.ref 147))
theorem Dep.kf (k : KIx) (C : Addr) (nm : Value) : Dep (C :: k.cl :: k.all) (Kf k C nm) := fun U hu _ _ kx x =>
  ⟨Dep.kat k C nm U (fun a ha hm => hu a ha (by rcases List.mem_cons.mp hm with e | hm; exact e ▸ .head _; exact .tail _ (.tail _ hm))) _ _ kx x.1, cell_keep x.2 kx fun hm => hu _ hm (.tail _ (.head _))⟩
theorem Kf.lt {k : KIx} {C : Addr} {nm : Value} {h : Heap} (x : Kf k C nm h) : ∀ a ∈ C :: k.cl :: k.all, a < h.objs.size := fun a ha => by
  rcases List.mem_cons.mp ha with rfl | ha
  · exact x.1.lt _ (.head _)
  · rcases List.mem_cons.mp ha with rfl | ha
    · exact x.2.lt
    · exact x.1.lt _ (.tail _ ha)
theorem paired_flip {α β γ : Type} {F : β → γ → Prop} {f : α → γ} {is : List α} {as : List β} (p : Paired (fun i a => F a (f i)) is as) : Paired F as (is.map f) := paired_turn f (fun _ _ x => x) p
theorem law11 {dr nu dg pl rw' oc wr : Addr} {ds : List Int} {nm : Value} {pk : Array Value} {Q : Flow → Heap → Prop} {n : Nat} (OK : Ok A (n + 60)) (f3 : ∀ h, I h → IL h nu (ds.map numOf)) (f7 : ∀ h, I h → RG h pl ds.length) (hn7 : 7 ≤ ds.length) (hn : ds.length ≤ 11)
    (ck : CK mg mb nm pk h) (far : ∃ D, Dep D I ∧ ∀ a ∈ D, a < h.objs.size ∧ a ∉ lawW b ∧ a ≠ 111) (hX : 111 ∈ X) (hb : 166 ≤ b) (S : St mg mb X B (lawW b) (lawEnv b) [("written", .ref wr), ("octets", .ref oc), ("rows", .ref rw'), ("places", .ref pl), ("digits", .ref dg), ("numbers", .ref nu), ("drawn", .ref dr), ("script", .ref 165)] I h)
    (q : ∀ h' C k od p, SortOut (numKey ds) ds.length p → (∀ a ∈ C :: k.cl :: k.all, h.objs.size ≤ a) → h.objs.size ≤ od → (∃ more, h'.get? 111 = some (tabObj (pk ++ more))) → St mg mb X B (lawW b) (lawEnv b) [("order", .ref od), ("key", .ref C), ("written", .ref wr), ("octets", .ref oc), ("rows", .ref rw'), ("places", .ref pl), ("digits", .ref dg), ("numbers", .ref nu), ("drawn", .ref dr), ("script", .ref 165)] (fun h => IL h od (p.toList.map fun (i : Nat) => (i : Int)) ∧ Kf k C nm h ∧ I h) h' → Q .next h') :
    hw (model prog w) A (exec (lawSt 10) (lawEnv b)) Q h := by
  obtain ⟨D, dD, hD⟩ := far
  have OK3 : Ok A (n + 3) := OK.mono (by lia)
  refine hw_two OK.hd ?_ rfl rfl rfl rfl
  repeat' walk_at "e"
  refine ⟨keep_tab S.g 10 rfl, ?_⟩
  obtain ⟨c1, c2, c3, c4⟩ := ck.tab
  obtain ⟨mc, m1, m2, m3⟩ := ck.sys
  refine cmpToKey (n := n) OK S.g ck.ba c1 c2 c3 c4 ck.nm_ ck.ob ck.bc m1 m2 m3 fun C k c h1 k1 K1 cl1 hK g111 => ?_
  have hiK : ∀ a ∈ C :: k.cl :: k.all, a ∉ lawW b := fun a ha => S.new (hK a ha)
  have low : ∀ a, 166 ≤ a → a ≠ 111 := fun a ha e => absurd (e ▸ ha) (by decide)
  have S0 := S
  have S1 : St mg mb X B (lawW b) (lawEnv b) _ I h1 := S0.turn k1 (fun a ha => by cases List.mem_singleton.mp ha; exact .inr (.inl rfl)) (fun a ha => by cases List.mem_singleton.mp ha; exact .inr hX)
    (fun hm => low b hb (List.mem_singleton.mp hm)) (fun y c e hm => low c (Nat.le_trans hb (Nat.le_of_lt (lawCells e))) (List.mem_singleton.mp hm))
    (dD _ (fun a ha hd => by cases List.mem_singleton.mp ha; exact (hD _ hd).2.2 rfl) _ _ k1 S0.imm) dD (fun a ha => ⟨Nat.lt_of_lt_of_le (hD a ha).1 k1.sz, (hD a ha).2.1⟩)
  have K1' : Kf k C nm h1 := ⟨K1, cl1⟩
  have S := (S1.rebase []).add K1' (Dep.kf k C nm) fun a ha => ⟨K1'.lt a ha, hiK a ha⟩
  refine hw_ListComp rfl rfl rfl ?_ (fun _ => rfl)
  repeat' walk_at "e"
  refine hw_ListComp rfl rfl rfl ?_ (fun _ => rfl)
  repeat' walk_at "e"
  obtain ⟨t1, t2, t3, R⟩ := f7 _ S.imm.2
  refine hw_iter_range R (by lia) fun it h3 k3 hi hi' R3 => ?_
  refine hs_mapA [("numbers", .ref nu)] (fun i a h => IL h a [numOf (ds.getD i 0), (i : Int)]) (fun i a => Dep.il a _) OK.hd S rfl rfl rfl rfl rfl (by walk_at "cl") (by walk_at "lc") itr_range ⟨Nat.zero_le _, R3⟩ k3 (fun a ha => by cases List.mem_singleton.mp ha; exact hi') (by simp only [sizeLine]; lia) (fun a ha => by cases List.mem_singleton.mp ha; exact hi) ?turn ?fin
  case turn =>
    rintro C' i v h4 k4 hi4 ⟨t, rfl⟩ S
    have e1 : (ds.map numOf).getD i 0 = numOf (ds.getD i 0) := by simp [List.getD, hi4]
    repeat' walk_at "e"
    refine hw_ilAt (f3 _ S.imm.2) (by rw [List.length_map]; exact hi4) (by rw [List.length_map]; lia) fun t => ?_
    rw [e1]
    repeat' walk_at "e"
    refine hw_ilNew (ns := [numOf (ds.getD i 0), (i : Int)]) (.cons _ _ (.cons _ _ .nil)) (by show 2 ≤ sizeLine; decide) fun a h8 k8 ha L8 => ?_
    exact ⟨S.base.trans k8, a, rfl, ha, L8⟩
  case fin =>
    intro C' acc as h4 k4 hC hacc hneC hl4 hm has pr
    with_reducible refine useC_none ?_
    intro h5 k5
    have L5 := list_past hl4 k5 hneC
    have pr' : Paired (fun a p => IL h4 a [p.1, p.2]) as (prsOf ds) := paired_flip pr
    have P5 : Paired (fun a p => IL h5 a [p.1, p.2]) as (prsOf ds) := pairs_keep k5 (fun a ha hm => (has a ha).2 (List.mem_singleton.mp hm)) pr'
    have al : as.length = ds.length := by rw [paired_len P5]; simp [prsOf]
    have S := S.past k4 k5 hC
    repeat' walk_at "e"
    refine hw_sortedPairs (n := n) (key := numKey ds) (by have := OK.un; lia) L5 P5 (by lia) (by lia) (fun i j p q e1 e2 => ?_) fun SD p h6 k6 hSD L6 so => ?_
    · obtain ⟨i1, rfl⟩ := prs_get e1
      obtain ⟨j1, rfl⟩ := prs_get e2
      exact decide_eq_decide.mpr (numKey_lt hn i1 j1)
    have S := S.call k6
    rw [al] at so
    have mem : ∀ i ∈ p.toList, i < as.length := fun i hi => by rw [al]; exact List.mem_range.mp (so.mem.mem_iff.mp hi)
    have P6 := paired_pick (pairs_keep k6 (fun a ha hm => nomatch hm) P5) p.toList mem
    have e6 : (p.toList.map fun i => (as.map Value.ref).getD i .none) = (p.toList.map fun i => as.getD i 0).map Value.ref := by
      rw [List.map_map]
      refine List.map_congr_left fun i hi => ?_
      have := mem i hi
      simp [List.getD, this]
    rw [e6] at L6
    have pl6 : p.toList.length = ds.length := by rw [so.mem.length_eq, List.length_range]
    have al6 : (p.toList.map fun i => as.getD i 0).length = ds.length := by rw [List.length_map, pl6]
    have eprs : ∀ (i : Nat) (r : Int × Int), (p.toList.map fun i => (prsOf ds).getD i (0, 0))[i]? = some r → ∃ j : Nat, p.toList[i]? = some j ∧ r.2 = (j : Int) := fun i r e => by
      rw [List.getElem?_map] at e
      cases ej : p.toList[i]? with
      | none => rw [ej] at e; cases e
      | some j =>
        rw [ej] at e
        have hj := mem j (List.mem_of_getElem? ej)
        rw [al] at hj
        refine ⟨j, rfl, ?_⟩
        have := (Option.some.inj e).symm
        rw [this]
        simp [prsOf, List.getD, hj]
    generalize (p.toList.map fun i => as.getD i 0) = as6 at *
    generalize (p.toList.map fun i => (prsOf ds).getD i (0, 0)) = prs6 at *
    refine hw_iter_list L6 fun it2 h7 k7 hit2 hne2 hlt2 I7 L7 => ?_
    have P7 := pairs_keep k7 (fun a ha hm => nomatch hm) P6
    have hna : it2 ∉ as6 := fun hm => Nat.lt_irrefl _ (Nat.lt_of_lt_of_le (pairs_lt P6 it2 hm) hit2)
    have pp : PP it2 SD as6 prs6 0 h7 := ⟨I7, L7, P7⟩
    have T := itr_pairs (prog := prog) (w := w) (prs := prs6) hne2 hna
    rw [al6] at T
    refine hs_mapG [] (fun _ => true) (fun i v => ∃ t, v = .int ((p.toList.getD i 0 : Nat) : Int) t) OK.hd S rfl rfl rfl rfl (by walk_at "cl") (by walk_at "lc") T pp k7 pp.lt (by simp only [sizeLine]; lia) (fun a ha => by cases List.mem_singleton.mp ha; exact hit2) (asg_pairs OK.hd rfl rfl rfl (by decide) pp.lt) ?turn2 ?fin2
    case turn2 =>
      rintro C2 i lb h8 k8 hi8 ⟨r, t, u, er, rfl⟩ S
      refine ⟨rfl, ?_⟩
      obtain ⟨j, ej, e2⟩ := eprs i r er
      have e3 : p.toList.getD i 0 = j := by rw [List.getD, ej]; rfl
      replace S : St mg mb [] h8 [] _ [(Str.ofString "number", .int r.1 t), (Str.ofString "k", .int r.2 u)] _ h8 := S
      repeat' walk_at "e"
      exact ⟨S.base, u, by rw [e3, e2]⟩
    case fin2 =>
      intro C2 od ys h8 k8 hC2 hod hneC2 hl8 hm8 pr8
      with_reducible refine useC_none ?_
      intro h9 k9
      rw [filter_true] at pr8
      have iy := paired_ints (f := fun i => ((p.toList.getD i 0 : Nat) : Int)) pr8
      have em : (List.range ds.length).map (fun i => ((p.toList.getD i 0 : Nat) : Int)) = p.toList.map fun (i : Nat) => (i : Int) := by
        rw [← pl6]; exact map_getD' (fun (i : Nat) => (i : Int)) 0 p.toList
      rw [em] at iy
      have O9 : IL h9 od (p.toList.map fun (i : Nat) => (i : Int)) := ⟨ys, list_past hl8 k9 hneC2, iy⟩
      have hod' : h.objs.size ≤ od := Nat.le_trans k1.sz (Nat.le_trans k4.sz (Nat.le_trans k5.sz (Nat.le_trans k6.sz hod)))
      have S := (S.past k8 k9 hC2).add O9 (Dep.il od _) fun a ha => by cases List.mem_singleton.mp ha; exact ⟨O9.lt, S.new hod⟩
      intro h10 k10
      have S := S.call k10
      repeat' walk_at "e"
      rename_i S
      exact q _ _ _ _ _ so hK hod' ⟨_, S.base.keep _ _ (fun hm => by rw [List.append_nil] at hm; exact low _ (Nat.le_trans hb (lawW_ge _ hm)) rfl) g111⟩ (S1.unbase S fun _ hm => nomatch hm)

end
end

-- P5
section
open PySem PySem.W PyProof.Rows PySem.Calls
/-! ## the order of rows is the order of numbers -/
theorem range_filter (m : Nat) (p : Nat → Bool) : (List.range (m + 1)).filter p = (if p 0 then [0] else []) ++ ((List.range m).filter fun k => p (k + 1)).map Nat.succ := by
  rw [List.range_succ_eq_map, List.filter_cons, List.filter_map]
  split <;> rfl
theorem noughts_zero (r : List Int) : (noughtsOf (0 :: r)).length = (noughtsOf r).length + 1 := by
  unfold noughtsOf
  rw [List.length_cons, range_filter]
  have e0 : decide ((0 :: r).take (0 + 1) = List.replicate (0 + 1) (0 : Int)) = true := by simp
  rw [if_pos e0, List.length_append, List.length_map, List.length_singleton, Nat.add_comm]
  congr 2
  refine List.filter_congr fun k _ => ?_
  refine decide_eq_decide.mpr ?_
  rw [List.take_succ_cons, List.replicate_succ]
  simp
theorem noughts_pos {d : Int} (hd : d ≠ 0) (r : List Int) : noughtsOf (d :: r) = [] := by
  unfold noughtsOf
  rw [List.filter_eq_nil_iff]
  intro k _ h
  have := of_decide_eq_true h
  rw [List.take_succ_cons, List.replicate_succ] at this
  exact hd (List.cons.inj this).1
theorem strip_nil : strip [] = [] := rfl
theorem strip_zero (r : List Int) : strip (0 :: r) = strip r := by
  unfold strip
  rw [noughts_zero, List.drop_succ_cons]
theorem strip_pos {d : Int} (hd : d ≠ 0) (r : List Int) : strip (d :: r) = d :: r := by
  unfold strip
  rw [noughts_pos hd]; rfl
theorem strip_spec : ∀ ds : List Int, DigOk ds → val64 (strip ds) 0 = val64 ds 0 ∧ DigOk (strip ds) ∧ ∀ d r, strip ds = d :: r → 0 < d
  | [], _ => ⟨rfl, (fun _ hm => nomatch hm), (fun d r e => by rw [strip_nil] at e; cases e)⟩
  | d :: r, h => by
    have hr : DigOk r := fun x hx => h x (.tail _ hx)
    have hd := h d (.head _)
    by_cases e : d = 0
    · subst e
      rw [strip_zero]
      obtain ⟨a, b, c⟩ := strip_spec r hr
      exact ⟨a, b, c⟩
    · rw [strip_pos e]
      refine ⟨rfl, h, fun d' r' e' => ?_⟩
      cases e'; lia
theorem val_bound : ∀ ds : List Int, DigOk ds → 0 ≤ val64 ds 0 ∧ val64 ds 0 < 64 ^ ds.length
  | [], _ => ⟨by decide, by decide⟩
  | d :: r, h => by
    have hr : DigOk r := fun x hx => h x (.tail _ hx)
    have hd := h d (.head _)
    obtain ⟨a, b⟩ := val_bound r hr
    have e : val64 (d :: r) 0 = d * 64 ^ r.length + val64 r 0 := by
      have := val64_pow r (0 * 64 + d)
      show val64 r (0 * 64 + d) = _
      rw [this]; congr 1; congr 1; lia
    have hp : (0 : Int) < 64 ^ r.length := Int.pow_pos (by decide)
    rw [e, List.length_cons, Int.pow_succ]
    have h1 : d * 64 ^ r.length ≤ 63 * 64 ^ r.length := Int.mul_le_mul_of_nonneg_right (by lia) (Int.le_of_lt hp)
    have h0 : 0 ≤ d * 64 ^ r.length := Int.mul_nonneg hd.1 (Int.le_of_lt hp)
    generalize (64 : Int) ^ r.length = P at *
    constructor <;> lia
theorem val_cons (d : Int) (r : List Int) : val64 (d :: r) 0 = d * 64 ^ r.length + val64 r 0 := by
  have := val64_pow r (0 * 64 + d)
  show val64 r (0 * 64 + d) = _
  rw [this]; congr 1; congr 1; lia
theorem unlike_cons (x y : Int) (r s : List Int) : unlikeOf (x :: r) (y :: s) = (if x = y then [] else [x - y]) ++ unlikeOf r s := by
  unfold unlikeOf
  have em : min (x :: r).length (y :: s).length = min r.length s.length + 1 := by simp [Nat.succ_min_succ]
  rw [em, range_filter, List.map_append, List.map_map]
  congr 1
  · by_cases e : x = y
    · rw [if_pos e, if_neg (by simp [e])]; rfl
    · rw [if_neg e, if_pos (by simpa using e)]; rfl
/-- what two like long lists of digits compare to -/
theorem unlike_sign : ∀ (a b : List Int), DigOk a → DigOk b → a.length = b.length → (((unlikeOf a b).headD 0 < 0 ↔ val64 a 0 < val64 b 0) ∧ (0 < (unlikeOf a b).headD 0 ↔ val64 b 0 < val64 a 0))
  | [], [], _, _, _ => by
    have e : unlikeOf [] [] = [] := rfl
    rw [e]
    constructor <;> constructor <;> intro h <;> exact absurd h (by decide)
  | x :: r, y :: s, ha, hb, hl => by
    have hr : DigOk r := fun z hz => ha z (.tail _ hz)
    have hs : DigOk s := fun z hz => hb z (.tail _ hz)
    have hx := ha x (.head _)
    have hy := hb y (.head _)
    have hl' : r.length = s.length := by simpa using hl
    obtain ⟨ih1, ih2⟩ := unlike_sign r s hr hs hl'
    obtain ⟨r0, r1⟩ := val_bound r hr
    obtain ⟨s0, s1⟩ := val_bound s hs
    rw [unlike_cons, val_cons, val_cons, hl']
    rw [hl'] at r1
    have hp : (0 : Int) < 64 ^ s.length := Int.pow_pos (by decide)
    by_cases e : x = y
    · subst e
      rw [if_pos rfl]
      show ((unlikeOf r s).headD 0 < 0 ↔ _) ∧ (0 < (unlikeOf r s).headD 0 ↔ _)
      rw [ih1, ih2]
      generalize x * 64 ^ s.length = P
      constructor <;> constructor <;> intro h <;> lia
    · rw [if_neg e]
      show (x - y < 0 ↔ _) ∧ (0 < x - y ↔ _)
      rcases Int.lt_or_gt_of_ne e with h | h
      · have : x * 64 ^ s.length + 64 ^ s.length ≤ y * 64 ^ s.length := by
          have := Int.mul_le_mul_of_nonneg_right (show x + 1 ≤ y by lia) (Int.le_of_lt hp)
          rw [Int.add_mul, Int.one_mul] at this; exact this
        generalize x * 64 ^ s.length = P at *
        generalize y * 64 ^ s.length = R at *
        generalize (64 : Int) ^ s.length = T at *
        constructor <;> constructor <;> intro h' <;> lia
      · have : y * 64 ^ s.length + 64 ^ s.length ≤ x * 64 ^ s.length := by
          have := Int.mul_le_mul_of_nonneg_right (show y + 1 ≤ x by lia) (Int.le_of_lt hp)
          rw [Int.add_mul, Int.one_mul] at this; exact this
        generalize x * 64 ^ s.length = P at *
        generalize y * 64 ^ s.length = R at *
        generalize (64 : Int) ^ s.length = T at *
        constructor <;> constructor <;> intro h' <;> lia
theorem longer {a b : List Int} (ha : DigOk a) (hb : DigOk b) (hb0 : ∀ d r, b = d :: r → 0 < d) (h : a.length < b.length) : val64 a 0 < val64 b 0 := by
  obtain ⟨_, a1⟩ := val_bound a ha
  cases b with
  | nil => simp at h
  | cons d r =>
    have hd := hb0 d r rfl
    have hr : DigOk r := fun z hz => hb z (.tail _ hz)
    obtain ⟨r0, _⟩ := val_bound r hr
    rw [val_cons]
    have hp : (0 : Int) < 64 ^ r.length := Int.pow_pos (by decide)
    have h1 : (64 : Int) ^ r.length ≤ d * 64 ^ r.length := by
      have := Int.mul_le_mul_of_nonneg_right (show 1 ≤ d by lia) (Int.le_of_lt hp)
      rwa [Int.one_mul] at this
    have h2 : (64 : Int) ^ a.length ≤ 64 ^ r.length := by
      have h3 := Nat.pow_le_pow_right (show 0 < 64 by decide) (show a.length ≤ r.length from Nat.lt_succ_iff.mp h)
      have h4 : ((64 ^ a.length : Nat) : Int) ≤ ((64 ^ r.length : Nat) : Int) := Int.ofNat_le.mpr h3
      simpa using h4
    lia
theorem order_sign {ns ms : List Int} (ha : DigOk (six ns)) (hb : DigOk (six ms)) : (orderOf ns ms < 0 ↔ val64 (six ns) 0 < val64 (six ms) 0) ∧ (0 < orderOf ns ms ↔ val64 (six ms) 0 < val64 (six ns) 0) := by
  obtain ⟨a1, a2, a3⟩ := strip_spec _ ha
  obtain ⟨b1, b2, b3⟩ := strip_spec _ hb
  rw [← a1, ← b1]
  unfold orderOf
  generalize strip (six ns) = a at *
  generalize strip (six ms) = c at *
  by_cases h : a.length = c.length
  · rw [if_pos h]; exact unlike_sign a c a2 b2 h
  · rw [if_neg h]
    rcases Nat.lt_or_gt_of_ne h with h | h
    · have := longer a2 b2 b3 h
      constructor <;> constructor <;> intro h' <;> lia
    · have := longer b2 a2 a3 h
      constructor <;> constructor <;> intro h' <;> lia
theorem order_rows (ds : List Int) (i j : Nat) : (orderOf (rowI ds i) (rowI ds j) < 0 ↔ numOf (ds.getD i 0) < numOf (ds.getD j 0)) ∧ (0 < orderOf (rowI ds i) (rowI ds j) ↔ numOf (ds.getD j 0) < numOf (ds.getD i 0)) := by
  have e := order_sign (ns := rowI ds i) (ms := rowI ds j) (by rw [six_rowI]; exact (digitsOf_spec _).2.1) (by rw [six_rowI]; exact (digitsOf_spec _).2.1)
  rw [six_rowI, six_rowI, (digitsOf_spec _).1, (digitsOf_spec _).1] at e
  exact e
end

-- F16
section
open PySem PySem.W PyProof.Rows PySem.Calls
section
variable {prog : Program} {w : World} {A : Around} {mg mb : Str → Option Value} {X : List Addr} {B : Heap} {I : Heap → Prop} {h : Heap} {b : Nat}

theorem kl_inst {C x r : Addr} {h h' : Heap} (k : KL h h') (I : Inst C h x r) : Inst C h' x r := by
  obtain ⟨dd, a, c⟩ := I
  exact ⟨dd, k.2 _ _ (fun e => by cases e) a, k.2 _ _ (fun e => absurd e (by decide)) c⟩
noncomputable def numI (ds : List Int) (i : Nat) : Int := numOf (ds.getD i 0)
theorem sort_same {ds : List Int} (hn : ds.length ≤ 11) {p p' : Array Nat} (x : SortOut (numI ds) ds.length p) (y : SortOut (numKey ds) ds.length p') : p = p' := by
  refine x.uniq y fun a c ha hc => ?_
  unfold LL2 numI numKey
  lia
theorem law12 {rw' oc wr od C : Addr} {rs : List Addr} {ds : List Int} {k : KIx} {nm : Value} {p : Array Nat} {Q : Flow → Heap → Prop} {n : Nat} {l : List (Str × Value)} (OK : Ok A (n + 20)) (f4 : ∀ h, I h → Rws h rw' rs (rowsOf ds)) (f9 : ∀ h, I h → Kf k C nm h) (hn7 : 7 ≤ ds.length) (hn : ds.length ≤ 11)
    (so : SortOut (numKey ds) ds.length p) (hl : Dr "laid" (("order", .ref od) :: ("key", .ref C) :: ("written", .ref wr) :: ("octets", .ref oc) :: ("rows", .ref rw') :: l) (("order", .ref od) :: ("key", .ref C) :: ("written", .ref wr) :: ("octets", .ref oc) :: ("rows", .ref rw') :: l)) (S : St mg mb X B (lawW b) (lawEnv b) (("order", .ref od) :: ("key", .ref C) :: ("written", .ref wr) :: ("octets", .ref oc) :: ("rows", .ref rw') :: l) I h)
    (q : ∀ h' ld, h.objs.size ≤ ld → St mg mb X B (lawW b) (lawEnv b) (("laid", .ref ld) :: ("order", .ref od) :: ("key", .ref C) :: ("written", .ref wr) :: ("octets", .ref oc) :: ("rows", .ref rw') :: l) (fun h => h.IsList ld ((p.toList.map fun i => rs.getD i 0).map Value.ref).toArray ∧ I h) h' → Q .next h') :
    hw (model prog w) A (exec (lawSt 11) (lawEnv b)) Q h := by
  have lr : (rowsOf ds).length = ds.length := by simp [rowsOf]
  have rl : rs.length = ds.length := by rw [(f4 _ S.imm).len, lr]
  refine hw_Assign ?_ rfl
  refine hw_Call_kw ?_
  repeat' walk_at "e"
  refine hw_callWith_kw rfl ?_ rfl rfl
  repeat' walk_at "e"
  refine hw_evalAll ?_
  refine hw_bind ?_
  repeat' walk_at "e"
  refine hw_bind (hw_standAt (hw_pure ?_))
  refine hw_evalAll_nil ?_
  refine ⟨keep_builtin _, ?_⟩
  have OK2 : Ok A.in1.in1 (n + 15) := (Ok.in1 (Ok.in1 (OK.mono (m := n + 15 + 1 + 1) (by lia))))
  have rget : ∀ i, i < ds.length → rs[i]? = some (rs.getD i 0) ∧ ∀ h', KX [] h h' → IL h' (rs.getD i 0) (rowI ds i) := fun i hi => by
    obtain ⟨a, ea, La, er⟩ := (f4 _ S.imm).at (i := i) (by rw [lr]; exact hi)
    have e1 : (rowsOf ds).getD i [] = rowI ds i := by simp [List.getD, rowsOf, rowI, hi]
    rw [e1] at La
    have e2 : rs.getD i 0 = a := by rw [List.getD, ea]; rfl
    rw [e2]
    exact ⟨ea, fun h' k => La.call k⟩
  show hw (model prog w) A (call (.builtin "sorted") [.ref rw'] [(Str.ofString "key", .ref C)]) _ h
  refine hw_sortedK (vs := rs.map Value.ref) (key := numI ds) (T := .ref C) (R := fun i v h => ∃ x, v = .ref x ∧ Inst C h x (rs.getD i 0)) (fun i v h1 h2 k ⟨x, e, I⟩ => ⟨x, e, kl_inst k I⟩) (f4 _ S.imm).1 (by rw [List.length_map]; lia) (by rw [List.length_map]; lia) ?turn ?hT rfl (by simp) ?cmp ?fin
  case turn =>
    intro i v h1 hv k1
    rw [List.getElem?_map] at hv
    cases hr : rs[i]? with
    | none => rw [hr] at hv; cases hv
    | some a =>
      rw [hr] at hv; cases hv
      have hi : i < ds.length := by have := (List.getElem?_eq_some_iff.mp hr).1; lia
      have e2 : rs.getD i 0 = a := by rw [List.getD, hr]; rfl
      have S := S.call k1
      refine newK (n := n) OK2 S.g (f9 _ S.imm).1 fun x h2 k2 hx I2 => ⟨k2, x, rfl, by rw [e2]; exact I2⟩
  case hT =>
    rintro i v h1 hi k1 ⟨x, rfl, I1⟩
    exact inst_type I1
  case cmp =>
    rintro i j v v' h1 hi hj k1 ⟨x, rfl, I1⟩ ⟨y, rfl, J1⟩
    rw [List.length_map, rl] at hi hj
    have S := S.call k1
    have r1 := rowI_len ds i
    have r2 := rowI_len ds j
    refine hw_ltK (n := n) OK2 S.g (f9 _ S.imm).1 (f9 _ S.imm).2 I1 J1 ((rget i hi).2 _ k1) ((rget j hj).2 _ k1) (by lia) (by lia) fun h2 k2 => ⟨?_, k2⟩
    exact decide_eq_decide.mpr (order_rows ds i j).1
  case fin =>
    intro ld p2 h1 k1 hld L1 so2
    rw [List.length_map, rl] at so2
    have ep := sort_same hn so2 so
    subst ep
    have e6 : (p2.toList.map fun i => (rs.map Value.ref).getD i .none) = (p2.toList.map fun i => rs.getD i 0).map Value.ref := by
      rw [List.map_map]
      refine List.map_congr_left fun i hi => ?_
      have : i < rs.length := by rw [rl]; exact List.mem_range.mp (so.mem.mem_iff.mp hi)
      simp [List.getD, this]
    rw [e6] at L1
    have S := (S.call k1).add (P := fun h => h.IsList ld ((p2.toList.map fun i => rs.getD i 0).map Value.ref).toArray) L1 (Dep.list ld _) fun a ha => by cases List.mem_singleton.mp ha; exact ⟨list_lt L1, S.new hld⟩
    refine hs_put S rfl (by walk_at "memA") hl fun h2 s2 S => ?_
    exact q _ _ hld S

end
end

-- F17
section
open PySem PySem.W PyProof.Rows PySem.Calls
section
variable {prog : Program} {w : World} {A : Around} {mg mb : Str → Option Value} {X : List Addr} {B : Heap} {I : Heap → Prop} {h : Heap} {b : Nat}

noncomputable def BND (n : Nat) : PyData := .list [BD n, .int n]
theorem canLay_bnd (n : Nat) : (BND n).canLay0 = true := by simp only [BND, PyData.canLay0, PyData.canLayAll0, canLay_bd, Bool.and_self]
theorem depth_bnd (n : Nat) : (BND n).depth ≤ 8 := by simp only [BND, PyData.depth, PyData.depthAll]; have := depth_bd n; lia
theorem rd_bnd {h : Heap} {a c : Addr} {n : Nat} {t : Tok} (hl : h.IsList a [Value.ref c, .int n t].toArray) (hc : h.IsList c (List.replicate n (Value.bool true)).toArray) : Rd h (.ref a) (BND n) :=
  rd_list hl (.cons (rd_bools hc) (.cons ⟨_, .int _ t⟩ .nil))
theorem law13 {rw' ld od : Addr} {rs : List Addr} {ds : List Int} {p : Array Nat} {Q : Flow → Heap → Prop} {n : Nat} {l : List (Str × Value)} {C wr oc : Value} (OK : Ok A (n + 3)) (f4 : ∀ h, I h → Rws h rw' rs (rowsOf ds)) (f8 : ∀ h, I h → IL h od (p.toList.map fun (i : Nat) => (i : Int))) (f10 : ∀ h, I h → h.IsList ld ((p.toList.map fun i => rs.getD i 0).map Value.ref).toArray) (hn : ds.length ≤ 11)
    (so : SortOut (numKey ds) ds.length p) (S : St mg mb X B (lawW b) (lawEnv b) (("laid", .ref ld) :: ("order", .ref od) :: ("key", C) :: ("written", wr) :: ("octets", oc) :: ("rows", .ref rw') :: l) I h)
    (q : ∀ h', St mg mb X B (lawW b) (lawEnv b) (("laid", .ref ld) :: ("order", .ref od) :: ("key", C) :: ("written", wr) :: ("octets", oc) :: ("rows", .ref rw') :: l) I h' → Q .next h') :
    hw (model prog w) A (exec (lawSt 12) (lawEnv b)) Q h := by
  have lr : (rowsOf ds).length = ds.length := by simp [rowsOf]
  have rl : rs.length = ds.length := by rw [(f4 _ S.imm).len, lr]
  have pl6 : p.toList.length = ds.length := by rw [so.mem.length_eq, List.length_range]
  have mem : ∀ i ∈ p.toList, i < ds.length := fun i hi => List.mem_range.mp (so.mem.mem_iff.mp hi)
  refine hw_If ?_
  refine hw_isTrue_Compare ?_ (by with_unfolding_all rfl)
  refine hw_List ?_
  refine hw_spl ?_ rfl
  refine hw_ListComp rfl rfl rfl ?_ (fun _ => rfl)
  repeat' walk_at "e"
  obtain ⟨vb, hlb, hib⟩ := f8 _ S.imm
  refine hw_zip (f10 _ S.imm) hlb fun h2 k2 zp za => ?_
  refine hw_mono ((itr_zip (prog := prog) (w := w) za).iter A 0 h2 zp) ?_
  rintro _ _ ⟨rfl, rfl⟩
  have Tz := itr_zip (prog := prog) (w := w) (xs := ((p.toList.map fun i => rs.getD i 0).map Value.ref).toArray) (ys := vb.toArray) za
  have ea : ((p.toList.map fun i => rs.getD i 0).map Value.ref).toArray.size = ds.length := by rw [List.size_toArray, List.length_map, List.length_map, pl6]
  have eb : vb.toArray.size = ds.length := by rw [List.size_toArray, hib.length, List.length_map, pl6]
  rw [ea, eb, Nat.min_self] at Tz
  refine hs_mapG [("rows", .ref rw')] (fun _ => true) (fun _ v => v = .bool true) OK.hd S rfl rfl rfl rfl (by walk_at "cl") (by walk_at "lc") Tz zp k2 (fun a ha => zp.lt a ha) (by simp only [sizeLine]; lia) ?hwi (asg_zip OK.hd rfl rfl rfl (by decide) ?hz (fun a ha => zp.lt a ha)) ?turnZ ?finZ
  case hwi =>
    intro a ha
    simp only [List.mem_cons, List.not_mem_nil, or_false] at ha
    rcases ha with rfl | rfl | rfl | rfl <;> simp
  case hz =>
    intro hm
    simp only [List.mem_cons, List.not_mem_nil, or_false] at hm
    rcases hm with e1 | e1 | e1 | e1 | e1 | e1
    · exact za.TIz e1.symm
    · exact za.TOz e1.symm
    · exact za.i1z e1.symm
    · exact za.i2z e1.symm
    · exact za.l1z e1.symm
    · exact za.l2z e1.symm
  case turnZ =>
    rintro C' i lb h4 k4 hi4 ⟨v1, v2, rfl, e1, e2⟩ S
    refine ⟨rfl, ?_⟩
    rw [List.getElem?_toArray, List.getElem?_map, List.getElem?_map, List.getElem?_eq_getElem (by lia)] at e1
    have e1 := (Option.some.inj e1).symm
    obtain ⟨x2, t2, rfl, ex2⟩ := ints_val hib (by simpa using e2)
    rw [List.getElem?_map, List.getElem?_eq_getElem (by lia)] at ex2
    have ex2 := (Option.some.inj ex2).symm
    have hj := mem p.toList[i] (List.getElem_mem _)
    generalize p.toList[i] = j at e1 ex2 hj
    subst ex2
    obtain ⟨a, ea', La, er⟩ := (f4 _ S.imm).at (i := j) (by rw [lr]; exact hj)
    have e3 : rs.getD j 0 = a := by rw [List.getD, ea']; rfl
    have e1' : v1 = .ref a := by rw [e1]; show Value.ref (rs.getD j 0) = _; rw [e3]
    subst e1'
    replace S : St mg mb [] h4 [] _ [(Str.ofString "row", .ref a), (Str.ofString "k", .int (j : Int) t2), (Str.ofString "rows", .ref rw')] I h4 := S
    repeat' walk_at "e"
    refine hw_item (f4 _ S.imm).1 (by lia) (by lia) (by rw [Int.toNat_natCast, List.getElem?_toArray]; exact er) ?_
    obtain ⟨vs, ⟨o, ho, hc, _⟩, _⟩ := La
    refine hw_is_ref ho ho (by rw [hc]; exact fun e => absurd e (by decide)) ?_
    rw [decide_eq_true rfl]
    exact ⟨S.base, rfl⟩
  case finZ =>
    intro C' acc ys h4 k4 hC hac hneC hl4 hm pr
    with_reducible refine useC_none ?_
    intro h5 k5
    rw [filter_true] at pr
    have ey := paired_trues pr
    have L5 : h5.IsList acc (List.replicate ds.length (Value.bool true)).toArray := ey ▸ list_past hl4 k5 hneC
    have S := S.past k4 k5 hC
    repeat' walk_at "e"
    refine hw_len (f10 _ S.imm) (by rw [ea]; lia) fun t8 => ?_
    rw [ea]
    repeat' walk_at "e"
    refine hw_newList (by show 2 ≤ sizeLine; decide) fun e1 h6 k6 _ _ E1 => ?_
    have S := S.call k6
    repeat' walk_at "e"
    refine hw_newList (by show 1 ≤ sizeLine; decide) fun e2 h7 k7 _ _ E2 => ?_
    have S := S.call k7
    have el : ((rs.map Value.ref).toArray.size : Int) = ds.length := by rw [List.size_toArray, List.length_map, rl]
    repeat' walk_at "e"
    refine hw_len (f4 _ S.imm).1 (by rw [el]; lia) fun t9 => ?_
    rw [el]
    refine hw_mul_list E2 (by lia) (by lia) (by decide) fun e3 h8 k8 _ _ E3 => ?_
    have S := S.call k8
    have E3' : h8.IsList e3 (List.replicate ds.length (Value.bool true)).toArray := by
      have : (List.replicate (ds.length : Int).toNat ([Value.bool true].toArray).toList).flatten = List.replicate ds.length (Value.bool true) := by
        show (List.replicate (ds.length : Int).toNat (List.replicate 1 (Value.bool true))).flatten = _
        rw [Int.toNat_natCast, List.flatten_replicate_replicate, Nat.mul_one]
      rw [this] at E3
      exact E3
    repeat' walk_at "e"
    refine hw_len (f4 _ S.imm).1 (by rw [el]; lia) fun t10 => ?_
    rw [el]
    repeat' walk_at "e"
    refine hw_newList (by show 2 ≤ sizeLine; decide) fun e4 h9 k9 _ _ E4 => ?_
    have S := S.call k9
    have kk : ∀ {a xs}, h6.IsList a xs → h9.IsList a xs := fun z => list_keep (list_keep (list_keep z k7 fun hm => nomatch hm) k8 fun hm => nomatch hm) k9 fun hm => nomatch hm
    refine hw_neSame (n := n + 2) OK (rd_bnd (kk E1) (kk (list_keep L5 k6 fun hm => nomatch hm))) (rd_bnd E4 (list_keep E3' k9 fun hm => nomatch hm)) (canLay_bnd _) (depth_bnd _) ?_
    repeat' walk_at "e"
    exact q _ S

end
end

-- F18
section
open PySem PySem.W PyProof.Rows PySem.Calls
section
variable {prog : Program} {w : World} {A : Around} {mg mb : Str → Option Value} {X : List Addr} {B : Heap} {I : Heap → Prop} {h : Heap} {b : Nat}

/-- lists of lists of bools -/
noncomputable def BBD (rows : List (List Bool)) : PyData := .list (rows.map fun r => PyData.list (r.map PyData.bool))
theorem canLay_bl : ∀ r : List Bool, PyData.canLayAll0 (r.map PyData.bool) = true
  | [] => rfl
  | _ :: r => by simp only [List.map_cons, PyData.canLayAll0, PyData.canLay0, canLay_bl r, Bool.and_self]
theorem depth_bl : ∀ r : List Bool, PyData.depthAll (r.map PyData.bool) ≤ 1
  | [] => by simp [PyData.depthAll]
  | _ :: r => by simp only [List.map_cons, PyData.depthAll]; have := depth_bl r; simp only [PyData.depth]; lia
theorem canLay_bbl : ∀ rows : List (List Bool), PyData.canLayAll0 (rows.map fun r => PyData.list (r.map PyData.bool)) = true
  | [] => rfl
  | r :: rs => by simp only [List.map_cons, PyData.canLayAll0, PyData.canLay0, canLay_bl r, canLay_bbl rs, Bool.and_self]
theorem depth_bbl : ∀ rows : List (List Bool), PyData.depthAll (rows.map fun r => PyData.list (r.map PyData.bool)) ≤ 2
  | [] => by simp [PyData.depthAll]
  | r :: rs => by simp only [List.map_cons, PyData.depthAll]; have := depth_bbl rs; simp only [PyData.depth]; have := depth_bl r; lia
theorem canLay_bbd (rows : List (List Bool)) : (BBD rows).canLay0 = true := by simp only [BBD, PyData.canLay0, canLay_bbl]
theorem depth_bbd (rows : List (List Bool)) : (BBD rows).depth ≤ 8 := by simp only [BBD, PyData.depth]; have := depth_bbl rows; lia
noncomputable def BL (h : Heap) (a : Addr) (bs : List Bool) : Prop := h.IsList a (bs.map Value.bool).toArray
theorem Dep.bl (a : Addr) (bs : List Bool) : Dep [a] (fun h => BL h a bs) := fun _ hu _ _ k x => list_keep x k fun hm => hu a hm (.head _)
theorem paired_bools {h : Heap} : ∀ bs : List Bool, Paired (Rd h) (bs.map Value.bool) (bs.map PyData.bool)
  | [] => .nil
  | c :: r => .cons ⟨_, .bool c⟩ (paired_bools r)
theorem rd_bl {h : Heap} {a : Addr} {bs : List Bool} (x : BL h a bs) : Rd h (.ref a) (.list (bs.map PyData.bool)) := rd_list x (paired_bools bs)
theorem rd_bbl {h : Heap} {R : Addr} {as : List Addr} {rows : List (List Bool)} (hl : h.IsList R (as.map Value.ref).toArray) (p : Paired (fun a r => BL h a r) as rows) : Rd h (.ref R) (BBD rows) :=
  rd_list hl (paired_map Value.ref (fun _ _ x => x) (paired_mapR _ (fun _ _ x => rd_bl x) p))
theorem bls_keep {h h' : Heap} {U : List Addr} (k : KX U h h') {as : List Addr} {rows : List (List Bool)} (hu : ∀ a ∈ as, a ∉ U) (p : Paired (fun a r => BL h a r) as rows) : Paired (fun a r => BL h' a r) as rows := paired_impL (fun a ha _ x => list_keep x k (hu a ha)) p
/-- what two numbers' six comparisons answer -/
noncomputable def askN (x y : Int) (i : Nat) : Bool := if i = 0 then decide (x < y) else if i = 1 then decide (y < x) else if i = 2 then decide (x ≤ y) else if i = 3 then decide (y ≤ x) else if i = 4 then x == y else x != y
theorem askK_askN {o x y : Int} (h1 : o < 0 ↔ x < y) (h2 : 0 < o ↔ y < x) (i : Nat) : askK o i = askN x y i := by
  unfold askK askN
  repeat' split
  · exact decide_eq_decide.mpr h1
  · exact decide_eq_decide.mpr h2
  · exact decide_eq_decide.mpr (by lia)
  · exact decide_eq_decide.mpr (by lia)
  · by_cases e : o = 0
    · rw [e, show x = y by lia]; simp
    · rw [beq_eq_false_iff_ne.mpr e, beq_eq_false_iff_ne.mpr (show x ≠ y by lia)]
  · by_cases e : o = 0
    · rw [e, show x = y by lia]; simp
    · rw [beq_eq_false_iff_ne.mpr e, bne, beq_eq_false_iff_ne.mpr (show x ≠ y by lia)]
theorem hw_cmpInt {x y : Int} {t u : Tok} {op : CmpOp} {i : Nat} {Q : Value → Heap → Prop} (a : AskOp op i) (q : Q (.bool (askN x y i)) h) : hw (model prog w) A (compareOp op (.int x t) (.int y u)) Q h := by
  cases a
  · exact hw_lt (by simpa [askN] using q)
  · exact hw_gt (by simpa [askN] using q)
  · exact hw_le (by simpa [askN] using q)
  · exact hw_ge (by simpa [askN] using q)
  · exact hw_eq (by simpa [askN] using q)
  · exact hw_ne (by simpa [askN] using q)
noncomputable def prv (n i : Nat) : Nat := if i = 0 then n - 1 else i - 1
noncomputable def askRow (ds : List Int) (ps : List Nat) (i : Nat) : List Bool := (List.range 6).map (askN (numI ds (ps.getD i 0)) (numI ds (ps.getD (prv ps.length i) 0)))
theorem keep_cls {C : Addr} {k : KIx} {pm : Value} (K : KAt k C pm h) : KeepOk (model prog w) (.ref C) h := by
  obtain ⟨bT, t, tq, a1⟩ := K.1
  exact ⟨.machine, .inr (.inl rfl), (Looks.ld (part := none) a1).andThen ((k_call a1).andThen (Looks.of_pure (by simp)))⟩
theorem hw_itemPrev {value slice : Expr} {l : Addr} {items : Array Value} {i : Nat} {u : Tok} {x : Value} {Q : Value → Heap → Prop} (hl : h.IsList l items) (hi : i < items.size) (hn : items.size ≤ 1000) (hx : items[prv items.size i]? = some x) (q : Q x h)
    (hs : ∀ k u, subscripted slice false (.ref l) (.int k u) = operate [.ref l, .int k u] (getItem (.ref l) (.int k u))) : hw (model prog w) A (subscriptTail value slice (.ref l) (.int ((i : Int) - 1) u)) Q h := by
  unfold prv at hx
  by_cases e : i = 0
  · subst e
    rw [if_pos rfl] at hx
    refine hw_item_neg hl (by lia) (by lia) (by lia) ?_ q (hs _ _)
    rw [← hx]; congr 1; lia
  · rw [if_neg e] at hx
    refine hw_item hl (by lia) (by lia) ?_ q (hs _ _)
    rw [← hx]; congr 1; lia

end
end

-- F19
section
open PySem PySem.W PyProof.Rows PySem.Calls
section
variable {prog : Program} {w : World} {A : Around} {mg mb : Str → Option Value} {X : List Addr} {B : Heap} {I : Heap → Prop} {h : Heap} {b : Nat}

theorem law14 {dr dg nu pl rw' ld od C : Addr} {rs : List Addr} {ds : List Int} {k : KIx} {nm : Value} {p : Array Nat} {Q : Flow → Heap → Prop} {n : Nat} {wr oc : Value} (OK : Ok A (n + 20)) (f3 : ∀ h, I h → IL h nu (ds.map numOf)) (f7 : ∀ h, I h → RG h pl ds.length) (f4 : ∀ h, I h → Rws h rw' rs (rowsOf ds)) (f8 : ∀ h, I h → IL h od (p.toList.map fun (i : Nat) => (i : Int))) (f9 : ∀ h, I h → Kf k C nm h) (f10 : ∀ h, I h → h.IsList ld ((p.toList.map fun i => rs.getD i 0).map Value.ref).toArray) (hn : ds.length ≤ 11)
    (so : SortOut (numKey ds) ds.length p) (S : St mg mb X B (lawW b) (lawEnv b) [("laid", .ref ld), ("order", .ref od), ("key", .ref C), ("written", wr), ("octets", oc), ("rows", .ref rw'), ("places", .ref pl), ("digits", .ref dg), ("numbers", .ref nu), ("drawn", .ref dr), ("script", .ref 165)] I h)
    (q : ∀ h', St mg mb X B (lawW b) (lawEnv b) [("laid", .ref ld), ("order", .ref od), ("key", .ref C), ("written", wr), ("octets", oc), ("rows", .ref rw'), ("places", .ref pl), ("digits", .ref dg), ("numbers", .ref nu), ("drawn", .ref dr), ("script", .ref 165)] I h' → Q .next h') :
    hw (model prog w) A (exec (lawSt 13) (lawEnv b)) Q h := by
  have lr : (rowsOf ds).length = ds.length := by simp [rowsOf]
  have rl : rs.length = ds.length := by rw [(f4 _ S.imm).len, lr]
  have pl6 : p.toList.length = ds.length := by rw [so.mem.length_eq, List.length_range]
  have pget : ∀ i, i < ds.length → p.toList.getD i 0 < ds.length := fun i hi => by
    have e : p.toList.getD i 0 = p.toList[i]'(by lia) := by simp [List.getD, pl6, hi]
    rw [e]; exact List.mem_range.mp (so.mem.mem_iff.mp (List.getElem_mem _))
  have rget : ∀ {h'}, I h' → ∀ j, j < ds.length → IL h' (rs.getD j 0) (rowI ds j) := fun {h'} iI j hj => by
    obtain ⟨a, ea, La, er⟩ := (f4 _ iI).at (i := j) (by rw [lr]; exact hj)
    have e1 : (rowsOf ds).getD j [] = rowI ds j := by simp [List.getD, rowsOf, rowI, hj]
    have e2 : rs.getD j 0 = a := by rw [List.getD, ea]; rfl
    rw [e2, ← e1]; exact La
  obtain ⟨items, hitems⟩ : ∃ items, items = ((p.toList.map fun i => rs.getD i 0).map Value.ref).toArray := ⟨_, rfl⟩
  have isz : items.size = ds.length := by rw [hitems, List.size_toArray, List.length_map, List.length_map, pl6]
  have iget : ∀ i, i < ds.length → items[i]? = some (.ref (rs.getD (p.toList.getD i 0) 0)) := fun i hi => by
    have e : p.toList[i]? = some (p.toList.getD i 0) := by
      rw [List.getElem?_eq_getElem (by lia)]; simp [List.getD, pl6, hi]
    rw [hitems, List.getElem?_toArray, List.getElem?_map, List.getElem?_map, e]; rfl
  rw [← hitems] at f10
  have prv_lt : ∀ i, i < ds.length → prv ds.length i < ds.length := fun i hi => by unfold prv; split <;> lia
  obtain ⟨t1, t2, t3, R⟩ := f7 _ S.imm
  refine hw_If ?_
  refine hw_isTrue_Compare ?_ (by with_unfolding_all rfl)
  refine hw_ListComp rfl rfl rfl ?_ (fun _ => rfl)
  repeat' walk_at "e"
  refine hw_iter_range R (by lia) fun it h3 k3 hi hi' R3 => ?_
  refine hs_mapA [("key", .ref C), ("laid", .ref ld)] (fun i a h => BL h a (askRow ds p.toList i)) (fun i a => Dep.bl a _) OK.hd S rfl rfl rfl rfl rfl (by walk_at "cl") (by walk_at "lc") itr_range ⟨Nat.zero_le _, R3⟩ k3 (fun a ha => by cases List.mem_singleton.mp ha; exact hi') (by simp only [sizeLine]; lia) (fun a ha => by cases List.mem_singleton.mp ha; exact hi) ?turn ?fin
  case turn =>
    rintro C' i v h4 k4 hi4 ⟨t, rfl⟩ S
    have pi := pget i hi4
    have pj := pget _ (prv_lt i hi4)
    have ei := iget i hi4
    have ej := iget _ (prv_lt i hi4)
    rw [← isz] at ej
    have arow : askRow ds p.toList i = (List.range 6).map (askN (numI ds (p.toList.getD i 0)) (numI ds (p.toList.getD (prv items.size i) 0))) := by unfold askRow; rw [pl6, isz]
    rw [← isz] at pj
    rw [arow]
    generalize p.toList.getD i 0 = x at *
    generalize p.toList.getD (prv items.size i) 0 = y at *
    rw [isz] at pj
    repeat' walk_at "e"
    refine hw_item (f10 _ S.imm) (by lia) (by lia) (by rw [Int.toNat_natCast]; exact ei) ?_
    repeat' walk_at "e"
    refine ⟨keep_cls (f9 _ S.imm).1, ?_⟩
    refine newK (n := n + 5) OK S.g (f9 _ S.imm).1 fun x1 h5 k5 hx1 I1 => ?_
    have S := S.call k5
    repeat' walk_at "e"
    refine hw_itemPrev (f10 _ S.imm) (by lia) (by lia) ej ?_ (fun _ _ => by with_unfolding_all rfl)
    repeat' walk_at "e"
    refine ⟨keep_cls (f9 _ S.imm).1, ?_⟩
    refine newK (n := n + 5) OK S.g (f9 _ S.imm).1 fun x2 h6 k6 hx2 I2 => ?_
    have S := S.call k6
    repeat' walk_at "e"
    refine ⟨keep_tab S.g 18 rfl, ?_⟩
    refine lawAsked (n := n + 19) (ask := askN (numI ds x) (numI ds y)) OK S.g (fun op j A' h7 a OK7 G7 k7 => ?_) fun h8 a k8 ha L8 => ⟨S.base.trans k8, a, rfl, Nat.le_trans S.base.sz ha, L8⟩
    have S := S.call k7
    have r1 := rowI_len ds x
    have r2 := rowI_len ds y
    refine hw_cmpK (n := n + 4) a OK7 G7 (f9 _ S.imm).1 (f9 _ S.imm).2 ((I1.keep k6).keep k7) (I2.keep k7) (rget S.imm x pi) (rget S.imm y pj) (by lia) (by lia) fun h9 k9 => ⟨k9, ?_⟩
    rw [askK_askN (order_rows ds x y).1 (order_rows ds x y).2]
    rfl
  case fin =>
    intro C1 l1 a1 h4 k4 hC hl1 hneC hl4 hm hgs pr
    with_reducible refine useC_none ?_
    intro h5 k5
    have pr' := paired_flip (f := fun i => askRow ds p.toList i) (F := fun a r => BL h4 a r) pr
    have P5 := bls_keep k5 (fun a ha hm => (hgs a ha).2 (List.mem_singleton.mp hm)) pr'
    have L5 := list_past hl4 k5 hneC
    have S := S.past k4 k5 hC
    refine hw_ListComp rfl rfl rfl ?_ (fun _ => rfl)
    repeat' walk_at "e"
    obtain ⟨t1, t2, t3, R⟩ := f7 _ S.imm
    refine hw_iter_range R (by lia) fun it h6 k6 hi hi' R6 => ?_
    refine hs_mapA [("numbers", .ref nu), ("order", .ref od)] (fun i a h => BL h a (askRow ds p.toList i)) (fun i a => Dep.bl a _) OK.hd S rfl rfl rfl rfl rfl (by walk_at "cl") (by walk_at "lc") itr_range ⟨Nat.zero_le _, R6⟩ k6 (fun a ha => by cases List.mem_singleton.mp ha; exact hi') (by simp only [sizeLine]; lia) (fun a ha => by cases List.mem_singleton.mp ha; exact hi) ?turn2 ?fin2
    case turn2 =>
      rintro C' i v h7 k7 hi7 ⟨t, rfl⟩ S
      obtain ⟨vo, hlo, hio⟩ := f8 _ S.imm
      have vsz : vo.toArray.size = ds.length := by rw [List.size_toArray, hio.length, List.length_map, pl6]
      have oget : ∀ j, j < ds.length → ∃ t, vo.toArray[j]? = some (.int ((p.toList.getD j 0 : Nat) : Int) t) := fun j hj => by
        have e : (p.toList.map fun (i : Nat) => (i : Int))[j]? = some ((p.toList.getD j 0 : Nat) : Int) := by
          rw [List.getElem?_map, List.getElem?_eq_getElem (by lia)]; simp [List.getD, pl6, hj]
        obtain ⟨t, ht⟩ := ints_get hio e
        exact ⟨t, by simpa using ht⟩
      obtain ⟨ta, ea⟩ := oget i hi7
      obtain ⟨tb, eb⟩ := oget _ (prv_lt i hi7)
      have pi := pget i hi7
      have pj := pget _ (prv_lt i hi7)
      rw [← vsz] at eb pj
      have arow : askRow ds p.toList i = (List.range 6).map (askN (numI ds (p.toList.getD i 0)) (numI ds (p.toList.getD (prv vo.toArray.size i) 0))) := by unfold askRow; rw [pl6, vsz]
      rw [arow]
      generalize p.toList.getD i 0 = x at *
      generalize p.toList.getD (prv vo.toArray.size i) 0 = y at *
      rw [vsz] at pj
      have nget : ∀ j, j < ds.length → (ds.map numOf).getD j 0 = numI ds j := fun j hj => by simp [List.getD, numI, hj]
      repeat' walk_at "e"
      refine hw_item hlo (by lia) (by lia) (by rw [Int.toNat_natCast]; exact ea) ?_
      refine hw_ilAt (f3 _ S.imm) (by rw [List.length_map]; exact pi) (by rw [List.length_map]; lia) fun t => ?_
      rw [nget x pi]
      repeat' walk_at "e"
      refine hw_itemPrev hlo (by lia) (by lia) eb ?_ (fun _ _ => by with_unfolding_all rfl)
      refine hw_ilAt (f3 _ S.imm) (by rw [List.length_map]; exact pj) (by rw [List.length_map]; lia) fun t => ?_
      rw [nget y pj]
      repeat' walk_at "e"
      refine ⟨keep_tab S.g 18 rfl, ?_⟩
      refine lawAsked (n := n + 19) (ask := askN (numI ds x) (numI ds y)) OK S.g (fun op j A' h7 a OK7 G7 k7 => ?_) fun h8 a k8 ha L8 => ⟨S.base.trans k8, a, rfl, Nat.le_trans S.base.sz ha, L8⟩
      exact hw_cmpInt a ⟨KX.refl _ _, rfl⟩
    case fin2 =>
      intro C2 l2 a2 h7 k7 hC2 hl2 hneC2 hl7 hm2 hgs2 pr2
      with_reducible refine useC_none ?_
      intro h8 k8
      have pr2' := paired_flip (f := fun i => askRow ds p.toList i) (F := fun a r => BL h7 a r) pr2
      have P8 := bls_keep k8 (fun a ha hm => (hgs2 a ha).2 (List.mem_singleton.mp hm)) pr2'
      have k58 := KX.past k7 k8 hC2
      have P5' := bls_keep k58 (fun a ha hm => nomatch hm) P5
      have S := S.past k7 k8 hC2
      refine hw_neSame (n := n + 19) OK (rd_bbl (list_keep L5 k58 fun hm => nomatch hm) P5') (rd_bbl (list_past hl7 k8 hneC2) P8) (canLay_bbd _) (depth_bbd _) ?_
      repeat' walk_at "e"
      exact q _ S

end
end

-- F20
section
open PySem PySem.W PyProof.Rows PySem.Calls
section
variable {prog : Program} {w : World} {A : Around} {mg mb : Str → Option Value} {X : List Addr} {B : Heap} {I : Heap → Prop} {h : Heap} {b : Nat}

noncomputable def isMax (ds : List Int) (i : Nat) : Bool := (List.range ds.length).all fun j => decide (numI ds j ≤ numI ds i)
theorem isMax_iff {ds : List Int} {i : Nat} : isMax ds i = true ↔ ∀ j, j < ds.length → numI ds j ≤ numI ds i := by
  unfold isMax
  rw [List.all_eq_true]
  constructor
  · exact fun h j hj => of_decide_eq_true (h j (List.mem_range.mpr hj))
  · exact fun h j hj => decide_eq_true (h j (List.mem_range.mp hj))
theorem has_max (f : Nat → Int) : ∀ n, 0 < n → ∃ m, m < n ∧ ∀ j, j < n → f j ≤ f m
  | 1, _ => ⟨0, by decide, fun j hj => by have : j = 0 := by lia
                                          subst this; exact Int.le_refl _⟩
  | n + 2, _ => by
    obtain ⟨m, hm, h⟩ := has_max f (n + 1) (by lia)
    by_cases e : f (n + 1) ≤ f m
    · refine ⟨m, by lia, fun j hj => ?_⟩
      by_cases ej : j = n + 1
      · subst ej; exact e
      · exact h j (by lia)
    · refine ⟨n + 1, by lia, fun j hj => ?_⟩
      by_cases ej : j = n + 1
      · subst ej; exact Int.le_refl _
      · have := h j (by lia); lia
theorem filter_last (p : Nat → Bool) : ∀ n, (∃ m, m < n ∧ p m = true) → ∃ m, m < n ∧ p m = true ∧ (∀ j, m < j → j < n → p j = false) ∧ ((List.range n).filter p).getLast? = some m
  | 0, ⟨m, h, _⟩ => absurd h (by lia)
  | n + 1, ⟨m, hm, hp⟩ => by
    rw [List.range_succ, List.filter_append]
    by_cases e : p n = true
    · refine ⟨n, by lia, e, fun j h1 h2 => by lia, ?_⟩
      rw [List.filter_cons, if_pos e]
      simp
    · have hmn : m ≠ n := fun z => e (z ▸ hp)
      obtain ⟨m', h1, h2, h3, h4⟩ := filter_last p n ⟨m, by lia, hp⟩
      refine ⟨m', by lia, h2, fun j j1 j2 => ?_, ?_⟩
      · by_cases ej : j = n
        · subst ej; simpa using e
        · exact h3 j j1 (by lia)
      · rw [List.filter_cons, if_neg e]
        simpa using h4
theorem hw_neg1 {x : Int} {k : Nat} {p p' : Pos} {env : Env} {Q : Value → Heap → Prop} (q : ∀ t, Q (.int (-x) t) h) : hw (model prog w) A (eval (.UnaryOp .USub (.Constant (.int x) k p) p') env) Q h := fun s e => by
  subst e
  exact wpAny_UnaryOp (wpAny_Constant_int (PyProof.Rows.neg_int ⟨⟨rfl, rfl, rfl⟩, q _⟩))
theorem law15 {dr dg nu pl rw' : Addr} {ds : List Int} {Q : Flow → Heap → Prop} {n : Nat} {wr oc C od ld : Value} (OK : Ok A (n + 20)) (f3 : ∀ h, I h → IL h nu (ds.map numOf)) (f7 : ∀ h, I h → RG h pl ds.length) (hn7 : 7 ≤ ds.length) (hn : ds.length ≤ 11)
    (S : St mg mb X B (lawW b) (lawEnv b) [("laid", ld), ("order", od), ("key", C), ("written", wr), ("octets", oc), ("rows", .ref rw'), ("places", .ref pl), ("digits", .ref dg), ("numbers", .ref nu), ("drawn", .ref dr), ("script", .ref 165)] I h)
    (q : ∀ h' m t, m < ds.length → isMax ds m = true → (∀ j, m < j → j < ds.length → isMax ds j = false) → St mg mb X B (lawW b) (lawEnv b) [("last", .int ((m : Nat) : Int) t), ("laid", ld), ("order", od), ("key", C), ("written", wr), ("octets", oc), ("rows", .ref rw'), ("places", .ref pl), ("digits", .ref dg), ("numbers", .ref nu), ("drawn", .ref dr), ("script", .ref 165)] I h' → Q .next h') :
    hw (model prog w) A (exec (lawSt 14) (lawEnv b)) Q h := by
  obtain ⟨t1, t2, t3, R⟩ := f7 _ S.imm
  have nl : (ds.map numOf).length = ds.length := List.length_map ..
  refine hw_Assign ?_ rfl
  refine hw_Subscript ?_
  refine hw_ListComp rfl rfl rfl ?_ (fun _ => rfl)
  repeat' walk_at "e"
  refine hw_iter_range R (by lia) fun it h3 k3 hi hi' R3 => ?_
  refine hs_mapV [("numbers", .ref nu)] (isMax ds) (fun i v => ∃ t, v = .int ((i : Nat) : Int) t) OK.hd S rfl rfl rfl rfl rfl (by walk_at "cl") (by walk_at "lc") itr_range ⟨Nat.zero_le _, R3⟩ k3 (fun a ha => by cases List.mem_singleton.mp ha; exact hi') (by simp only [sizeLine]; lia) (fun a ha => by cases List.mem_singleton.mp ha; exact hi) ?turn ?fin
  case turn =>
    rintro C' i v h4 k4 hi4 ⟨t, rfl⟩ S
    have nget : ∀ j, j < ds.length → (ds.map numOf).getD j 0 = numI ds j := fun j hj => by simp [List.getD, numI, hj]
    refine tests_one ?_
    repeat' walk_at "e"
    refine hw_ilAt (f3 _ S.imm) (by rw [nl]; exact hi4) (by rw [nl]; lia) fun t => ?_
    rw [nget i hi4]
    repeat' walk_at "e"
    refine hw_max OK.hd (f3 _ S.imm) (by lia) fun h5 M t5 k5 hM hle => ?_
    have S := S.call k5
    have eM : (numI ds i == M) = isMax ds i := by
      obtain ⟨x, hx, rfl⟩ := List.mem_map.mp hM
      by_cases e : isMax ds i = true
      · rw [e, beq_iff_eq]
        obtain ⟨j, hj, ej⟩ := List.getElem_of_mem hx
        have h1 := isMax_iff.mp e j hj
        have h2 := hle (numI ds i) (List.mem_map.mpr ⟨ds.getD i 0, by simp [List.getD, hi4], rfl⟩)
        have h3 : numI ds j = numOf x := by unfold numI; simp [List.getD, hj, ej]
        lia
      · have e' : isMax ds i = false := by simpa using e
        rw [e', beq_eq_false_iff_ne]
        intro z
        refine e (isMax_iff.mpr fun j hj => ?_)
        rw [z]
        exact hle (numI ds j) (List.mem_map.mpr ⟨ds.getD j 0, by simp [List.getD, hj], rfl⟩)
    repeat' walk_at "e"
    refine ⟨eM, ?_⟩
    cases hb : (numI ds i == M) with
    | true =>
      simp only [if_true]
      repeat' walk_at "e"
      exact ⟨S.base, _, rfl⟩
    | false =>
      simp only [Bool.false_eq_true, if_false]
      exact S.base
  case fin =>
    intro C' acc ys h4 k4 hC hacc hneC hl4 hm pr
    with_reducible refine useC_none ?_
    intro h5 k5
    have L5 := list_past hl4 k5 hneC
    have S := S.past k4 k5 hC
    obtain ⟨m0, hm0, hmx⟩ := has_max (numI ds) ds.length (by lia)
    obtain ⟨m, m1, m2, m3, m4⟩ := filter_last (isMax ds) ds.length ⟨m0, hm0, isMax_iff.mpr hmx⟩
    refine hw_neg1 fun t => ?_
    have ne : ((List.range ds.length).filter (isMax ds)).length ≠ 0 := fun z => by
      rw [List.length_eq_zero_iff.mp z] at m4; cases m4
    have yl : ys.length = ((List.range ds.length).filter (isMax ds)).length := (paired_len pr).symm
    have yle : ((List.range ds.length).filter (isMax ds)).length ≤ ds.length := Nat.le_trans (List.length_filter_le ..) (by rw [List.length_range]; exact Nat.le_refl _)
    have yv : ∃ t, ys[ys.length - 1]? = some (.int ((m : Nat) : Int) t) := by
      rw [List.getLast?_eq_getElem?] at m4
      obtain ⟨v, ev, t, e⟩ := paired_left pr m4
      exact ⟨t, by rw [yl, ev, e]⟩
    obtain ⟨tv, ev⟩ := yv
    refine hw_item_neg (x := .int ((m : Nat) : Int) tv) L5 (by decide) (by rw [List.size_toArray]; lia) (by decide) ?_ ?_
    · rw [List.size_toArray, List.getElem?_toArray, ← ev]; congr 1; lia
    · repeat' walk_at "e"
      rename_i S
      exact q _ m tv m1 m2 m3 S

end
end

-- F21
section
open PySem PySem.W PyProof.Rows PySem.Calls
section
variable {prog : Program} {w : World} {A : Around} {mg mb : Str → Option Value} {X : List Addr} {B : Heap} {I : Heap → Prop} {h : Heap} {b : Nat}

theorem law16 {dr dg nu pl rw' : Addr} {rs : List Addr} {ds : List Int} {p0 ps : Array Value} {m : Nat} {tm : Tok} {Q : Flow → Heap → Prop} {n : Nat} {wr oc C od ld : Value} (OK : Ok A (n + 20)) (f4 : ∀ h, I h → Rws h rw' rs (rowsOf ds)) (hn7 : 7 ≤ ds.length) (hn : ds.length ≤ 11) (hm : m < ds.length) (hm1 : isMax ds m = true) (hm2 : ∀ j, m < j → j < ds.length → isMax ds j = false)
    (ba : BA mg h) (L : LX (lawW b) p0 ps h) (far : ∃ D, Dep D I ∧ ∀ a ∈ D, a < h.objs.size ∧ a ∉ lawW b ∧ a ≠ 161) (hX : 161 ∈ X) (hb : 166 ≤ b)
    (S : St mg mb X B (lawW b) (lawEnv b) [("last", .int ((m : Nat) : Int) tm), ("laid", ld), ("order", od), ("key", C), ("written", wr), ("octets", oc), ("rows", .ref rw'), ("places", .ref pl), ("digits", .ref dg), ("numbers", .ref nu), ("drawn", .ref dr), ("script", .ref 165)] I h)
    (q : ∀ h' ps', LX (lawW b) p0 ps' h' → St mg mb X B (lawW b) (lawEnv b) [("last", .int ((m : Nat) : Int) tm), ("laid", ld), ("order", od), ("key", C), ("written", wr), ("octets", oc), ("rows", .ref rw'), ("places", .ref pl), ("digits", .ref dg), ("numbers", .ref nu), ("drawn", .ref dr), ("script", .ref 165)] I h' → Q (.ret (.bool true)) h') :
    hw (model prog w) A (exec (lawSt 15) (lawEnv b)) Q h := by
  have lr : (rowsOf ds).length = ds.length := by simp [rowsOf]
  have rl : rs.length = ds.length := by rw [(f4 _ S.imm).len, lr]
  obtain ⟨D, dD, hD⟩ := far
  have S0 := S
  have S := S.expand hX dD hD
  have low : ∀ a, 166 ≤ a → a ≠ 161 ∧ a ≠ 163 := fun a ha => ⟨fun e => absurd (e ▸ ha) (by decide), fun e => absurd (e ▸ ha) (by decide)⟩
  have rget : ∀ {h'}, I h' → ∀ j, j < ds.length → IL h' (rs.getD j 0) (rowI ds j) := fun {h'} iI j hj => by
    obtain ⟨a, ea, La, er⟩ := (f4 _ iI).at (i := j) (by rw [lr]; exact hj)
    have e1 : (rowsOf ds).getD j [] = rowI ds j := by simp [List.getD, rowsOf, rowI, hj]
    have e2 : rs.getD j 0 = a := by rw [List.getD, ea]; rfl
    rw [e2, ← e1]; exact La
  have rat : ∀ j, j < ds.length → (rs.map Value.ref)[j]? = some (.ref (rs.getD j 0)) := fun j hj => by
    rw [List.getElem?_map, List.getElem?_eq_getElem (by lia)]; simp [List.getD, rl, hj]
  refine hw_Return ?_
  refine hw_Compare ?_ (by with_unfolding_all rfl)
  repeat' walk_at "e"
  refine hw_Lambda2 L.lt S.g.sz S.g.g (ba.at (KX.refl [] _) (fun _ hm => nomatch hm) (.inr (.inr rfl))) rfl rfl rfl rfl lawQual fun f h5 cv ctv ps5 k5 hf ho hcd L5 hps hex => ?_
  have S := S.callX k5 (fun a ha => by cases List.mem_singleton.mp ha; exact .head _) (fun hm => (low b hb).1 (List.mem_singleton.mp hm)) (fun x c e hm => (low c (Nat.le_trans hb (Nat.le_of_lt (lawCells e)))).1 (List.mem_singleton.mp hm))
  have LX5 : LX (lawW b) p0 ps5 h5 := ⟨L5, fun c hc => by
    rcases hps c hc with z | z
    · exact ⟨Nat.lt_of_lt_of_le (L.ap c z).1 k5.sz, (L.ap c z).2⟩
    · exact ⟨z.2, fun hm => Nat.lt_irrefl _ (Nat.lt_of_lt_of_le (S0.wlt c hm) z.1), Nat.le_trans S0.g.sz z.1⟩, app_ex L.ex hex⟩
  repeat' walk_at "e"
  refine ⟨keep_tab S.g 12 rfl, ?_⟩
  refine reduceL (n := n + 19) (vs := rs.map Value.ref) (fun i v => ∃ x, x < i ∧ x < ds.length ∧ v = .ref (rs.getD x 0) ∧ (∀ j, j < i → numI ds j ≤ numI ds x) ∧ (∀ j, x < j → j < i → numI ds j < numI ds x)) OK S.g (f4 _ S.imm).1 (rat 0 (by lia)) ⟨0, by lia, by lia, rfl, (fun j hj => by rw [show j = 0 by lia]; exact Int.le_refl _), (fun j h1 h2 => by lia)⟩ (fun h' k => keep_fn (k.all _ _ ho)) ?step ?done
  case step =>
    rintro i a e A' h6 OK6 G6 k6 hi ⟨x, hx, hxn, rfl, hx1, hx2⟩
    have hin : i < ds.length := by have := (List.getElem?_eq_some_iff.mp hi).1; rw [List.length_map] at this; lia
    rw [rat i hin] at hi
    cases hi
    have S6 := S.call k6
    have i1 := rget S6.imm x hxn
    have i2 := rget S6.imm i hin
    refine hw_lam (n := n + 18) (binds := [("one", .ref (rs.getD x 0)), ("two", .ref (rs.getD i 0))]) (I := fun h => IL h (rs.getD x 0) (rowI ds x) ∧ IL h (rs.getD i 0) (rowI ds i)) OK6 G6 (k6.all _ _ ho) rfl (code_call hcd k6) rfl (by exact rfl) (nocell rfl) (fun p hp => by rcases List.mem_cons.mp hp with rfl | hp; rfl; cases List.mem_singleton.mp hp; rfl) (by show (["one", "two"] : List Str).Nodup; decide) ⟨i1, i2⟩ ((DepIn.il i1).and (DepIn.il i2)) rfl rfl rfl ?_ rfl rfl rfl
    intro A7 h7 OK7 S
    have r1 := rowI_len ds x
    have r2 := rowI_len ds i
    have ord := order_rows ds x i
    repeat' walk_at "e"
    refine ⟨keep_tab S.g 16 rfl, ?_⟩
    refine lawOrder (n := n + 16) OK7 S.g S.imm.1 S.imm.2 (by lia) (by lia) fun h8 t k8 => ?_
    have S := S.call k8
    repeat' walk_at "e"
    refine hw_dec (fun hc => ?_) (fun hc => ?_)
    · repeat' walk_at "e"
      have h1 := ord.2.mp hc
      refine ⟨S.base, x, by lia, hxn, rfl, fun j hj => ?_, fun j j1 j2 => ?_⟩
      · by_cases ej : j = i
        · subst ej; exact Int.le_of_lt h1
        · exact hx1 j (by lia)
      · by_cases ej : j = i
        · subst ej; exact h1
        · exact hx2 j j1 (by lia)
    · repeat' walk_at "e"
      have h1 : numI ds x ≤ numI ds i := Int.not_lt.mp fun z => hc (ord.2.mpr z)
      refine ⟨S.base, i, by lia, hin, rfl, fun j hj => ?_, fun j j1 j2 => by lia⟩
      by_cases ej : j = i
      · subst ej; exact Int.le_refl _
      · exact Int.le_trans (hx1 j (by lia)) h1
  case done =>
    rintro h6 v k6 ⟨x, hx, hxn, rfl, hx1, hx2⟩
    rw [List.length_map, rl] at hx1 hx2
    have exm : x = m := by
      have a1 := isMax_iff.mp hm1 x hxn
      have a2 := hx1 m hm
      rcases Nat.lt_trichotomy x m with z | z | z
      · have := hx2 m z hm; lia
      · exact z
      · have z1 := hm2 x z hxn
        rw [isMax_iff.mpr hx1] at z1
        cases z1
    subst exm
    have S := S.call k6
    repeat' walk_at "e"
    refine hw_item (f4 _ S.imm).1 (by lia) (by lia) (by rw [Int.toNat_natCast, List.getElem?_toArray]; exact rat x hxn) ?_
    obtain ⟨vs, ⟨o, ho, hc, _⟩, _⟩ := rget S.imm x hxn
    refine hw_is_ref ho ho (by rw [hc]; exact fun e => absurd e (by decide)) ?_
    rw [decide_eq_true rfl]
    exact q _ _ (LX5.call k6) S.shrink

end
end

-- F22
section
open PySem PySem.W PyProof.Rows PySem.Calls
/-! ## law, joined -/
/-- leans on the script and on what lies above lo alone -/
noncomputable def Far (lo : Nat) (I : Heap → Prop) (h : Heap) : Prop := ∃ D, Dep D I ∧ ∀ a ∈ D, (a = 165 ∨ lo ≤ a) ∧ a < h.objs.size
theorem Far.and {lo : Nat} {P I : Heap → Prop} {h : Heap} (x : Far lo P h) (y : Far lo I h) : Far lo (fun h => P h ∧ I h) h :=
  let ⟨D, a, c⟩ := x; let ⟨D', a', c'⟩ := y; ⟨D ++ D', a.and a', fun z hz => (List.mem_append.mp hz).elim (c z) (c' z)⟩
theorem Far.up {lo : Nat} {I : Heap → Prop} {h h' : Heap} (x : Far lo I h) (k : h.objs.size ≤ h'.objs.size) : Far lo I h' :=
  let ⟨D, a, c⟩ := x; ⟨D, a, fun z hz => ⟨(c z hz).1, Nat.lt_of_lt_of_le (c z hz).2 k⟩⟩
theorem Far.new {lo : Nat} {P : Heap → Prop} {h : Heap} {D : List Addr} (d : Dep D P) (hd : ∀ a ∈ D, lo ≤ a ∧ a < h.objs.size) : Far lo P h := ⟨D, d, fun a ha => ⟨.inr (hd a ha).1, (hd a ha).2⟩⟩
/-- law's whole state -/
structure LS (mg mb : Str → Option Value) (nm : Value) (b lo : Nat) (B : Heap) (l : List (Str × Value)) (I : Heap → Prop) (p0 ps : Array Value) (h : Heap) : Prop where
  s : St mg mb [161, 111] B (lawW b) (lawEnv b) l I h
  f : Far lo I h
  x : LX (lawW b) p0 ps h
  c : BA mg h
  lo_ : lo ≤ h.objs.size
  hb : 166 ≤ b
  hw_ : ∀ a ∈ lawW b, 166 ≤ a ∧ a < lo
theorem BA.keep {mg : Str → Option Value} {h h' : Heap} {U : List Addr} (x : BA mg h) (k : KX U h h') (hU : Hi U) : BA mg h' := by
  obtain ⟨bm, o, a1, a2, a3, a4, a5, a6, a7, a8⟩ := x
  exact ⟨bm, o, a1, a2, a3, a4, a5, a6, k.keep _ _ (hU.not a4 a5 a6) a7, a8⟩
section
variable {mg mb : Str → Option Value} {nm : Value} {b lo : Nat} {B : Heap} {l l' : List (Str × Value)} {I I' : Heap → Prop} {p0 ps ps' : Array Value} {h h' : Heap}
theorem LS.far (T : LS mg mb nm b lo B l I p0 ps h) : ∃ D, Dep D I ∧ ∀ a ∈ D, a < h.objs.size ∧ a ∉ lawW b ∧ a ≠ 161 := by
  obtain ⟨D, d, hd⟩ := T.f
  refine ⟨D, d, fun a ha => ⟨(hd a ha).2, fun hm => ?_, fun e => ?_⟩⟩
  · rcases (hd a ha).1 with e | e
    · exact absurd (T.hw_ a hm).1 (by rw [e]; decide)
    · exact Nat.lt_irrefl _ (Nat.lt_of_lt_of_le (T.hw_ a hm).2 e)
  · rcases (hd a ha).1 with z | z
    · rw [z] at e; exact absurd e (by decide)
    · have := (T.hw_ b (.head _))
      exact absurd (Nat.le_trans this.1 (Nat.le_trans (Nat.le_of_lt this.2) (e ▸ z))) (by decide)
theorem LS.far1 (T : LS mg mb nm b lo B l I p0 ps h) : ∃ D, Dep D I ∧ ∀ a ∈ D, a < h.objs.size ∧ a ∉ lawW b ∧ a ≠ 111 := by
  obtain ⟨D, d, hd⟩ := T.f
  refine ⟨D, d, fun a ha => ⟨(hd a ha).2, fun hm => ?_, fun e => ?_⟩⟩
  · rcases (hd a ha).1 with e | e
    · exact absurd (T.hw_ a hm).1 (by rw [e]; decide)
    · exact Nat.lt_irrefl _ (Nat.lt_of_lt_of_le (T.hw_ a hm).2 e)
  · rcases (hd a ha).1 with z | z
    · rw [z] at e; exact absurd e (by decide)
    · have := (T.hw_ b (.head _))
      exact absurd (Nat.le_trans this.1 (Nat.le_trans (Nat.le_of_lt this.2) (e ▸ z))) (by decide)
theorem LS.hi (T : LS mg mb nm b lo B l I p0 ps h) (U : List Addr) (hU : ∀ a ∈ U, a = 161 ∨ a = 111) : Hi (lawW b ++ U) := fun a ha => by
  rcases List.mem_append.mp ha with ha | ha
  · exact .inl (T.hw_ a ha).1
  · rcases hU a ha with e | e
    · exact .inr (.inr e)
    · exact .inr (.inl e)
theorem LS.not (T : LS mg mb nm b lo B l I p0 ps h) {a : Addr} (ha : a < 166) : a ∉ lawW b := fun hm => absurd (T.hw_ a hm).1 (Nat.not_le.mpr ha)
/-- behind a statement that makes no lambda -/
theorem LS.next (T : LS mg mb nm b lo B l I p0 ps h) (S : St mg mb (lawW b ++ []) h (lawW b) (lawEnv b) l' I' h') (f : Far lo I' h') : LS mg mb nm b lo B l' I' p0 ps h' where
  s := T.s.unbase S fun _ hm => nomatch hm
  f := f
  x := T.x.keep S.base (fun hm => by rw [List.append_nil] at hm; exact T.not (a := 163) (by decide) hm) (fun hm => by rw [List.append_nil] at hm; exact T.not (a := 161) (by decide) hm) fun a ha => .inl (by rw [List.append_nil] at ha; exact ha)
  c := T.c.keep S.base (T.hi [] fun _ hm => nomatch hm)
  lo_ := Nat.le_trans T.lo_ S.base.sz
  hb := T.hb
  hw_ := T.hw_
/-- behind one that does -/
theorem LS.nextL (T : LS mg mb nm b lo B l I p0 ps h) (S : St mg mb (lawW b ++ [161]) h (lawW b) (lawEnv b) l' I' h') (f : Far lo I' h') (x : LX (lawW b) p0 ps' h') : LS mg mb nm b lo B l' I' p0 ps' h' where
  s := T.s.unbase S fun a hm => by cases List.mem_singleton.mp hm; exact .inr (.head _)
  f := f
  x := x
  c := T.c.keep S.base (T.hi [161] fun a hm => .inl (List.mem_singleton.mp hm))
  lo_ := Nat.le_trans T.lo_ S.base.sz
  hb := T.hb
  hw_ := T.hw_
/-- behind the class -/
theorem LS.nextK (T : LS mg mb nm b lo B l I p0 ps h) (S : St mg mb (lawW b ++ [111]) h (lawW b) (lawEnv b) l' I' h') (f : Far lo I' h') : LS mg mb nm b lo B l' I' p0 ps h' where
  s := T.s.unbase S fun a hm => by cases List.mem_singleton.mp hm; exact .inr (.tail _ (.head _))
  f := f
  x := T.x.keep S.base (fun hm => (List.mem_append.mp hm).elim (T.not (by decide)) fun z => absurd (List.mem_singleton.mp z) (by decide)) (fun hm => (List.mem_append.mp hm).elim (T.not (by decide)) fun z => absurd (List.mem_singleton.mp z) (by decide)) fun a ha => by
    rcases List.mem_append.mp ha with ha | ha
    · exact .inl ha
    · exact .inr (.inr (by rw [List.mem_singleton.mp ha]; decide))
  c := T.c.keep S.base (T.hi [111] fun a hm => .inr (List.mem_singleton.mp hm))
  lo_ := Nat.le_trans T.lo_ S.base.sz
  hb := T.hb
  hw_ := T.hw_
end
end

-- F23
section
open PySem PySem.W PyProof.Rows PySem.Calls
variable {prog : Program} {w : World} {A : Around} {mg mb : Str → Option Value} {h : Heap}
theorem execs_cons_hw {M : Model} {env : Env} {st : Stmt} {rest : List Stmt} {Q : Flow → Heap → Prop} {h : Heap} (x : hw M A (exec st env) (fun f h' => f = .next ∧ hw M A (execs rest env) Q h') h) : hw M A (execs (st :: rest) env) Q h :=
  hw_cons (hw_mono x fun f h' ⟨e, y⟩ => by subst e; exact y)
set_option maxHeartbeats 2000000 in
theorem lawRun {ns : List Int} {nm : Value} {pk ps : Array Value} {Q : Value → Heap → Prop} {n : Nat} (OK : Ok A (n + 62)) (G : Gd mg mb h) (hs : IL h 165 ns) (hn : ns.length ≤ 63) (ck : CK mg mb nm pk h) (L : LX [] ps ps h)
    (q : ∀ h', KX [161, 111] h h' → (∃ more, h'.get? 161 = some (tabObj (ps ++ more))) → (∃ more, h'.get? 111 = some (tabObj (pk ++ more))) → Q (.bool true) h') :
    hw (model prog w) A (call (.ref 164) [.ref 165]) Q h := by
  refine hw_fnC 19 18 29 rfl rfl [("script", .ref 165)] ["script"] (lawW h.objs.size) (fun h => IL h 165 ns) OK G rfl (by rfl) (by decide) rfl (lawW_eq _) (by rw [lawSc_eq]; decide) hs (DepIn.il hs) ?_ (by rw [lawSc_eq]; rfl)
  intro A' h₁ OK' S
  show hw (model prog w) A' (execs (fbody (fstmt 29)) (lawEnv h.objs.size)) _ h₁
  rw [law_body]
  have hb := G.sz
  have k1 := S.base
  have ck := ck.keep k1 (fun _ hm => nomatch hm)
  have Lx := L.call k1
  have cold : ∀ c ∈ codesOf ps, c < h.objs.size := fun c hc => (L.ap c hc).1
  replace S : St mg mb [161, 111] h (lawW h.objs.size) (lawEnv h.objs.size) [("script", .ref 165)] (fun h => IL h 165 ns) h₁ := St.moreX S fun _ hm => nomatch hm
  generalize hbb : h.objs.size = b at *
  have wlow : ∀ a ∈ lawW b, b ≤ a := fun a ha => by
    simp only [List.mem_cons, List.not_mem_nil, or_false] at ha
    rcases ha with e | e | e | e | e | e | e | e <;> rw [e] <;> first | exact Nat.le_refl _ | exact Nat.le_add_right _ _
  have T : LS mg mb nm b h₁.objs.size h [("script", .ref 165)] (fun h => IL h 165 ns) ps ps h₁ :=
    { s := S
      f := ⟨[165], Dep.il 165 ns, fun a ha => by cases List.mem_singleton.mp ha; exact ⟨.inl rfl, S.imm.lt⟩⟩
      x := ⟨Lx.lt, fun c hc => ⟨(Lx.ap c hc).1, fun hm => Nat.lt_irrefl _ (Nat.lt_of_lt_of_le (cold c hc) (wlow c hm)), (Lx.ap c hc).2.2⟩, Lx.ex⟩
      c := ck.ba
      lo_ := Nat.le_refl _
      hb := hb
      hw_ := fun a ha => ⟨Nat.le_trans hb (wlow a ha), S.wlt a ha⟩ }
  clear S k1 Lx cold wlow
  generalize h₁.objs.size = lo at T
  have wU : ∀ {U : List Addr}, (∀ a ∈ U, a = 161) → ∀ a ∈ lawW b ++ U, 166 ≤ a ∨ a = 161 := fun hU a ha => (List.mem_append.mp ha).elim (fun z => .inl (T.hw_ a z).1) fun z => .inr (hU a z)
  have hb := T.hb
  have hlo6 : 166 ≤ lo := Nat.le_trans hb (Nat.le_of_lt (T.hw_ b (.head _)).2)
  have w0 := wU (U := []) fun _ hm => nomatch hm
  have w1 := wU (U := [161]) fun a hm => List.mem_singleton.mp hm
  -- drawn
  refine execs_cons_hw (law1 (n := n + 60) OK' (fun _ i => i) hn (T.s.rebase []) fun h2 dr ds d7 d11 hdr S2 => ⟨rfl, ?_⟩)
  have ck := ck.keep S2.base w0
  have T := T.next S2 ((Far.new (Dep.il dr ds) fun a ha => by cases List.mem_singleton.mp ha; exact ⟨Nat.le_trans T.lo_ hdr, S2.imm.1.lt⟩).and (T.f.up S2.base.sz))
  clear S2 hdr
  -- numbers, digits
  refine execs_cons_hw (law2 (n := n + 59) OK' (fun _ i => i.1) d11 (T.s.rebase []) fun h3 nu dg gs hnu hdg S3 => ⟨rfl, ?_⟩)
  have ck := ck.keep S3.base w0
  have hdg6 : 166 ≤ dg := Nat.le_trans hlo6 (Nat.le_trans T.lo_ (hdg dg (.head _)))
  have T := T.next S3 ((Far.new (Dep.rws dg gs _) fun a ha => ⟨Nat.le_trans T.lo_ (hdg a ha), S3.imm.1.lt a ha⟩).and ((Far.new (Dep.il nu _) fun a ha => by cases List.mem_singleton.mp ha; exact ⟨Nat.le_trans T.lo_ hnu, S3.imm.2.1.lt⟩).and (T.f.up S3.base.sz)))
  clear S3 hnu hdg
  -- places, rows
  refine execs_cons_hw (law3 (n := n + 59) OK' (fun _ i => i.2.2.1) (fun _ i => i.1) d11 (T.s.rebase []) fun h4 pl rw' rs hpl hrw S4 => ⟨rfl, ?_⟩)
  have ck := ck.keep S4.base w0
  have T := T.next S4 ((Far.new (Dep.rws rw' rs _) fun a ha => ⟨Nat.le_trans T.lo_ (hrw a ha), S4.imm.1.lt a ha⟩).and ((Far.new (Dep.rg pl _) fun a ha => by cases List.mem_singleton.mp ha; exact ⟨Nat.le_trans T.lo_ hpl, S4.imm.2.1.lt⟩).and (T.f.up S4.base.sz)))
  clear S4 hpl hrw
  -- reads
  refine execs_cons_hw (law4 (n := n + 58) OK' (fun _ i => i.2.2.2.1) (fun _ i => i.1) d11 (T.s.rebase []) fun h5 S5 => ⟨rfl, ?_⟩)
  have ck := ck.keep S5.base w0
  have T := T.next S5 (T.f.up S5.base.sz)
  clear S5
  -- reduce over digits
  refine execs_cons_hw (law5 (n := n + 58) OK' (fun _ i => i.2.2.1) (fun _ i => i.2.2.2.1) d11 T.c T.x T.far (List.mem_append_right _ (.head _)) hb hdg6 (T.s.rebase [161]) fun h6 ps6 L6 S6 => ⟨rfl, ?_⟩)
  have ck := ck.keep S6.base w1
  have T := T.nextL S6 (T.f.up S6.base.sz) L6
  clear S6 L6
  -- octets
  refine execs_cons_hw (law6 (n := n + 58) OK' (fun _ i => i.1) d11 (by walk_at "dr") (T.s.rebase []) fun h7 oc hoc S7 => ⟨rfl, ?_⟩)
  have ck := ck.keep S7.base w0
  have T := T.next S7 ((Far.new (Dep.bts oc _) fun a ha => by cases List.mem_singleton.mp ha; exact ⟨Nat.le_trans T.lo_ hoc, S7.imm.1.lt⟩).and (T.f.up S7.base.sz))
  clear S7 hoc
  -- reduce over octets
  refine execs_cons_hw (law7 (n := n + 58) OK' (fun _ i => i.1) (fun _ i => i.2.2.2.2.1) d11 T.c T.x T.far (List.mem_append_right _ (.head _)) hb (T.s.rebase [161]) fun h8 ps8 L8 S8 => ⟨rfl, ?_⟩)
  have ck := ck.keep S8.base w1
  have T := T.nextL S8 (T.f.up S8.base.sz) L8
  clear S8 L8
  -- written
  refine execs_cons_hw (law8 (n := n + 58) OK' (fun _ i => i.1) d11 (by walk_at "dr") (T.s.rebase []) fun h9 wr hwr S9 => ⟨rfl, ?_⟩)
  have ck := ck.keep S9.base w0
  have T := T.next S9 ((Far.new (Dep.bts wr _) fun a ha => by cases List.mem_singleton.mp ha; exact ⟨Nat.le_trans T.lo_ hwr, S9.imm.1.lt⟩).and (T.f.up S9.base.sz))
  clear S9 hwr
  -- types
  refine execs_cons_hw (law9 (n := n + 58) OK' (fun _ i => i.2.2.1) (fun _ i => i.2.1) (fun _ i => i.1) (by simp) (by simp) d11 (T.s.rebase []) fun h10 S10 => ⟨rfl, ?_⟩)
  have ck := ck.keep S10.base w0
  have T := T.next S10 (T.f.up S10.base.sz)
  clear S10
  -- signs
  refine execs_cons_hw (law10 (n := n + 58) OK' (fun _ i => i.2.2.1) (fun _ i => i.1) d11 (T.s.rebase []) fun h11 S11 => ⟨rfl, ?_⟩)
  have ck := ck.keep S11.base w0
  have T := T.next S11 (T.f.up S11.base.sz)
  clear S11
  -- key, order
  refine execs_cons_hw (law11 (n := n + 1) OK' (fun _ i => i.2.2.2.2.2.1) (fun _ i => i.2.2.2.1) d7 d11 ck T.far1 (List.mem_append_right _ (.head _)) hb (T.s.rebase [111]) fun h12 C k od p so hK hod g111 S12 => ⟨rfl, ?_⟩)
  have T := T.nextK S12 ((Far.new (Dep.il od _) fun a ha => by cases List.mem_singleton.mp ha; exact ⟨Nat.le_trans T.lo_ hod, S12.imm.1.lt⟩).and ((Far.new (Dep.kf k C nm) fun a ha => ⟨Nat.le_trans T.lo_ (hK a ha), S12.imm.2.1.lt a ha⟩).and (T.f.up S12.base.sz)))
  clear S12 hK hod ck
  -- laid
  refine execs_cons_hw (law12 (n := n + 41) OK' (fun _ i => i.2.2.2.2.1) (fun _ i => i.2.1) d7 d11 so (by walk_at "dr") (T.s.rebase []) fun h13 ld hld S13 => ⟨rfl, ?_⟩)
  have g111 := g111.imp fun _ e => S13.base.keep _ _ (fun hm => by rw [List.append_nil] at hm; exact T.not (a := 111) (by decide) hm) e
  have T := T.next S13 ((Far.new (Dep.list ld _) fun a ha => by cases List.mem_singleton.mp ha; exact ⟨Nat.le_trans T.lo_ hld, list_lt S13.imm.1⟩).and (T.f.up S13.base.sz))
  clear S13 hld
  -- laid as ordered
  refine execs_cons_hw (law13 (n := n + 58) OK' (fun _ i => i.2.2.2.2.2.1) (fun _ i => i.2.1) (fun _ i => i.1) d11 so (T.s.rebase []) fun h14 S14 => ⟨rfl, ?_⟩)
  have g111 := g111.imp fun _ e => S14.base.keep _ _ (fun hm => by rw [List.append_nil] at hm; exact T.not (a := 111) (by decide) hm) e
  have T := T.next S14 (T.f.up S14.base.sz)
  clear S14
  -- asked
  refine execs_cons_hw (law14 (n := n + 41) OK' (fun _ i => i.2.2.2.2.2.2.2.2.1) (fun _ i => i.2.2.2.2.2.2.1) (fun _ i => i.2.2.2.2.2.1) (fun _ i => i.2.1) (fun _ i => i.2.2.1) (fun _ i => i.1) d11 so (T.s.rebase []) fun h15 S15 => ⟨rfl, ?_⟩)
  have g111 := g111.imp fun _ e => S15.base.keep _ _ (fun hm => by rw [List.append_nil] at hm; exact T.not (a := 111) (by decide) hm) e
  have T := T.next S15 (T.f.up S15.base.sz)
  clear S15
  -- last
  refine execs_cons_hw (law15 (n := n + 41) OK' (fun _ i => i.2.2.2.2.2.2.2.2.1) (fun _ i => i.2.2.2.2.2.2.1) d7 d11 (T.s.rebase []) fun h16 m t m1 m2 m3 S16 => ⟨rfl, ?_⟩)
  have g111 := g111.imp fun _ e => S16.base.keep _ _ (fun hm => by rw [List.append_nil] at hm; exact T.not (a := 111) (by decide) hm) e
  have T := T.next S16 (T.f.up S16.base.sz)
  clear S16
  -- the greatest
  refine hw_cons (law16 (n := n + 41) OK' (fun _ i => i.2.2.2.2.2.1) d7 d11 m1 m2 m3 T.c T.x T.far (List.mem_append_right _ (.head _)) hb (T.s.rebase [161]) fun h17 ps17 L17 S17 => ?_)
  have g111 := g111.imp fun _ e => S17.base.keep _ _ (fun hm => (List.mem_append.mp hm).elim (T.not (a := 111) (by decide)) fun z => absurd (List.mem_singleton.mp z) (by decide)) e
  have T := T.nextL S17 (T.f.up S17.base.sz) L17
  refine q h17 T.s.base ?_ g111
  obtain ⟨more, em⟩ := L17.ex
  exact ⟨more, by rw [← em]; exact L17.lt.2.1⟩
end

end

-- HZ
section
open PySem PySem.W PySem.W.X PyProof.Rows PySem.Calls
/-! ## the head: what stands ahead of the call -/
noncomputable abbrev Lk := Addr → Option Obj
noncomputable def dictAt (K : Lk) (a : Addr) : Array DictEntry := match K a with
  | some o => match o.data with
    | .dict es _ => es
    | _ => #[]
  | none => #[]
noncomputable def isDictAt (K : Lk) (a : Addr) : Bool := match K a with
  | some o => match o.data with
    | .dict es _ => es.toList.all fun e => match e.key with
      | .str _ _ => true
      | _ => false
    | _ => false
  | none => false
noncomputable def qualAt (K : Lk) (a : Addr) : Option Str := match K a with
  | some o => match o.data with
    | Data.fields vs => match (vs[1]? : Option Value) with
      | some (Value.str q _) => some q
      | _ => none
    | _ => none
  | none => none
noncomputable def kindV : Value → Nat
  | .str _ _ => 1
  | .int _ _ => 2
  | .bool _ => 3
  | _ => 0
noncomputable def hdView (K : Lk) (a : Addr) : Option (Value × Option Value × Nat × Nat × Nat × Nat) := match K a with
  | some o => match o.data with
    | Data.fields vs => some (o.cls, vs[11]?, kindV (vs.getD 18 .none), kindV (vs.getD 7 .none), kindV (vs.getD 9 .none), kindV (vs.getD 10 .none))
    | _ => none
  | none => none
noncomputable def yfL (K : Lk) :=
  (isDictAt K 0 && isDictAt K 2 && isDictAt K 3, globTab.map (fun p => nsFind (dictAt K 3) p.1), bltTab.map (fun p => (nsFind (dictAt K 3) p.1, nsFind (dictAt K 0) p.1)),
   addrTab.map (fun p => K p.1), codeTab.map (fun p => qualAt K p.1), hdView K 163, hdView K 115, K 161, K 111, (K 4).map (fun o => (o.cls, o.dict, o.data)),
   (["__builtins__", "__name__", "object", "law"] : List Str).map (nsFind (dictAt K 3)), (["object", "__build_class__"] : List Str).map (nsFind (dictAt K 0)), (["sys.recursionlimit", "thirdparty.any"] : List Str).map (nsFind (dictAt K 2)))
noncomputable def yf (s : Shared) := (s.heap.objs.size, yfL s.heap.get?)
noncomputable abbrev hdOk (P : Addr) : Option (Value × Option Value × Nat × Nat × Nat × Nat) := some (.type "code", some (.ref P), 1, 2, 3, 2)
noncomputable def ya (_ : World) : type_of% (yf (start PySem.Challenge.pw_qw0003_01).1) :=
  (165, true, globTab.map (fun p => some p.2), bltTab.map (fun p => (none, some p.2)), addrTab.map (fun p => some p.2), codeTab.map (fun p => some p.2), hdOk 161, hdOk 111, some (tabObj #[]), some (tabObj #[]), some (.type "module", some builtinsNs, .plain),
   [some (.ref 4), some (.str "law_qw0003_01" 342), none, some (.ref 164)], [some (.type "object"), some (.builtin "__build_class__")], [none, none])
noncomputable abbrev hpw : Program := PySem.Challenge.pw_qw0003_01
noncomputable def hdq : Program := view hpw [29]
noncomputable def hdLoose : List Str := ["_wall", "_parse_varint", "bytes_types", "_bytes_from_decode_data", "Error", "_B64", "_ascii_buffer", "_buffer", "_truth", "_b64_value", "a2b_base64", "b2a_base64", "b64encode", "b64decode", "cmp_to_key", "_initial_missing", "reduce", "_law_digits", "_law_row", "_law_signs", "_law_order", "_law_read", "_law_asked"]
noncomputable def hdXt (s : Shared) : Bool := recOk (RowW.records PySem.Challenge.rw_qw0003_01.row.toRowW) s
theorem hd_boot : ∀ w : World, (fencedOpening treeTable hpw w 1934).map (fun s => (s.heap, s.gens, s.drawn, s.toks)) = some (boot_heap w.params, Array.mk [], boot_drawn, boot_toks) :=
  boot_open (by kernel_rfl!) (by decide) (fun s => by kernel_rfl!)
end

-- HZ6
section
open PySem PySem.W PySem.W.X PyProof.Rows PySem.Calls
noncomputable def hdAnn (w : World) : Option Value := (boot_heap w.params).nsMap mainGlobals "__annotations__"
noncomputable def hd0 (w : World) (os : OsState) : Shared := ⟨boot_heap w.params, Array.mk [], boot_drawn, boot_toks, os⟩
noncomputable def hdOks (h : Heap) (s : Shared) : Bool := staticsOk (importedModules hpw.main.body) h s.heap && namesBound hpw s.heap && gensDone s && laidKept h s.heap
theorem hd_run : ∀ (w : World) (os : OsState), (topRun treeTable hpw w 11 (hdAnn w) 1934 (hd0 w os) (topStub hpw)).map (fun s => (hdOks (boot_heap w.params) s, openSeen hdq hdLoose (importedModules hpw.main.body) hdXt true s, yf s)) = some (true, openGood hdq hdLoose, ya w) := by
  intro w os
  rw [PySem.W.Fast.te14082659384304107361, PySem.W.Fast.te14364793385576792824, PySem.W.Fast.te4187177175401517315]
  kernel_rfl!
theorem hd_size : ∀ w : World, ((boot_heap w.params).isNs mainGlobals && true, (boot_heap w.params).objs.size) = (true, 11) := by
  intro w
  kernel_rfl!
theorem left_of {tb : String → Option Builtin} {p : Program} {w : World} {N : Nat} {H : Heap} {d : Drawn} {k : Nat} {os : OsState} {s : Shared} {γ : Type} {f : Shared → γ} {b : γ} (e : fencedOpening tb p w N = some ⟨H, Array.mk [], d, k, os⟩) (z1 : (H.isNs mainGlobals && true) = true) (z2 : H.objs.size = 11)
    (r : topRun tb p w 11 (H.nsMap mainGlobals "__annotations__") N ⟨H, Array.mk [], d, k, os⟩ (topStub p) = some s) (q1 : (staticsOk (importedModules p.main.body) H s.heap && namesBound p s.heap && gensDone s && laidKept H s.heap) = true) (q2 : f s = b) : (openEnds tb p w N).map f = some b := by
  have t : topFrom tb p w N ⟨H, Array.mk [], d, k, os⟩ = some s := by
    unfold topFrom
    show (match H.isNs mainGlobals && true with | true => (topRun tb p w H.objs.size (H.nsMap mainGlobals "__annotations__") N ⟨H, Array.mk [], d, k, os⟩ (topStub p)).bind fun s₁ => (match staticsOk (importedModules p.main.body) H s₁.heap && namesBound p s₁.heap && gensDone s₁ && laidKept H s₁.heap with | true => some s₁ | false => none) | false => none) = _
    rw [z1, z2, r]
    show (match staticsOk (importedModules p.main.body) H s.heap && namesBound p s.heap && gensDone s && laidKept H s.heap with | true => some s | false => none) = _
    rw [q1]
  unfold openEnds
  rw [e, Option.bind_some, t, Option.map_some, q2]
theorem hd_left : LeftO hpw hdq hdLoose hdXt yf ya 1934 := fun w => by
  obtain ⟨⟨h, gs, d, k, os⟩, e, e'⟩ := Option.map_eq_some_iff.mp (hd_boot w)
  obtain ⟨rfl, rfl, rfl, rfl⟩ : h = boot_heap w.params ∧ gs = Array.mk [] ∧ d = boot_drawn ∧ k = boot_toks := by simpa using e'
  obtain ⟨s, r, q⟩ := Option.map_eq_some_iff.mp (hd_run w os)
  obtain ⟨q1, q2⟩ := Prod.mk.inj q
  obtain ⟨z1, z2⟩ := Prod.mk.inj (hd_size w)
  exact left_of e z1 z2 r q1 q2
end

-- HZ7
section
open PySem PySem.W PySem.W.X PyProof.Rows PySem.Calls
section
variable {K : Lk} {h : Heap}
theorem ns_at (KX : ∀ a o, K a = some o → h.get? a = some o) {a : Addr} (e : isDictAt K a = true) : h.Ns a (nsFind (dictAt K a)) := by
  unfold isDictAt at e
  unfold dictAt
  cases ho : K a with
  | none => rw [ho] at e; cases e
  | some o =>
    rw [ho] at e
    simp only at e ⊢
    cases hd : o.data with
    | dict es n =>
      rw [hd] at e
      simp only at e ⊢
      refine ⟨o, es, n, KX a o ho, hd, fun x hx => ?_, fun _ => rfl⟩
      have := List.all_eq_true.mp e x (by simpa using hx)
      cases hk : x.key with
      | str s t => exact ⟨s, t, rfl⟩
      | _ => rw [hk] at this; cases this
    | _ => rw [hd] at e; cases e
theorem code_at (KX : ∀ a o, K a = some o → h.get? a = some o) {a : Addr} {q : Str} (e : qualAt K a = some q) : h.CodeRec (.ref a) q := by
  unfold qualAt at e
  cases ho : K a with
  | none => rw [ho] at e; cases e
  | some o =>
    rw [ho] at e
    simp only at e
    cases hd : o.data with
    | fields vs =>
      rw [hd] at e
      simp only at e
      cases hv : vs[1]? with
      | none => rw [hv] at e; cases e
      | some v =>
        rw [hv] at e
        cases v with
        | str s t => cases e; exact ⟨a, o, vs, t, rfl, KX a o ho, hd, hv⟩
        | _ => cases e
    | _ => rw [hd] at e; cases e
theorem kind1 {v : Value} (e : kindV v = 1) : ∃ s t, v = .str s t := by cases v <;> first | exact ⟨_, _, rfl⟩ | cases e
theorem kind2 {v : Value} (e : kindV v = 2) : ∃ s t, v = .int s t := by cases v <;> first | exact ⟨_, _, rfl⟩ | cases e
theorem kind3 {v : Value} (e : kindV v = 3) : ∃ s, v = .bool s := by cases v <;> first | exact ⟨_, rfl⟩ | cases e
theorem hd_at (KX : ∀ a o, K a = some o → h.get? a = some o) {a P : Addr} (n : a ≠ P) (e : hdView K a = hdOk P) : CodeHd h a P := by
  unfold hdView at e
  cases ho : K a with
  | none => rw [ho] at e; cases e
  | some o =>
    rw [ho] at e
    simp only at e
    cases hd : o.data with
    | fields vs =>
      rw [hd] at e
      simp only [Option.some.injEq, Prod.mk.injEq] at e
      obtain ⟨e1, e2, e3, e4, e5, e6⟩ := e
      obtain ⟨s, t, e3⟩ := kind1 e3
      obtain ⟨f, g, e4⟩ := kind2 e4
      obtain ⟨b, e5⟩ := kind3 e5
      obtain ⟨x, y, e6⟩ := kind2 e6
      exact ⟨o, vs, s, t, f, g, b, x, y, KX a o ho, e1, hd, e2, by rw [Array.getD_eq_getD_getElem?, e2]; rfl, e3, e4, e5, e6, n⟩
    | _ => rw [hd] at e; cases e
theorem map_same {α β : Type} {f g : α → β} : ∀ {l : List α}, l.map f = l.map g → ∀ p ∈ l, f p = g p
  | [], _, _, hp => nomatch hp
  | a :: r, e, p, hp => by
    rw [List.map_cons, List.map_cons] at e
    rcases List.mem_cons.mp hp with rfl | hp
    · exact (List.cons.inj e).1
    · exact map_same (List.cons.inj e).2 p hp
theorem lx_of (C : CodeHd h 163 161) (e : h.get? 161 = some (tabObj #[])) : LX [] #[] #[] h where
  lt := ⟨C, e, trivial, fun pos cv e => by simp [codeAmong] at e⟩
  ap := fun c hc => by simp [codesOf] at hc
  ex := ⟨#[], rfl⟩
/-- what stood, stands: but for the two tables of codes, which grew -/
theorem old_of {h' : Heap} (k : KX [161, 111] h h') (C1 : CodeHd h 163 161) (C2 : CodeHd h 115 111) (e1 : h.get? 161 = some (tabObj #[])) (e2 : h.get? 111 = some (tabObj #[]))
    (g1 : ∃ more, h'.get? 161 = some (tabObj (#[] ++ more))) (g2 : ∃ more, h'.get? 111 = some (tabObj (#[] ++ more))) : OldK h h' := by
  have t1 : isCodeTable h 161 := by
    obtain ⟨o, vs, file, tf, flags, tg, inF, text, tt, a, b, c, d, _⟩ := C1
    exact ⟨163, o, vs, a, b, c, d⟩
  have t2 : isCodeTable h 111 := by
    obtain ⟨o, vs, file, tf, flags, tg, inF, text, tt, a, b, c, d, _⟩ := C2
    exact ⟨115, o, vs, a, b, c, d⟩
  obtain ⟨m1, g1⟩ := g1
  obtain ⟨m2, g2⟩ := g2
  refine ⟨fun b o e => ?_, fun b o e => ?_⟩
  · by_cases h1 : b = 161
    · subst h1
      rw [e1] at e; cases e
      exact .inr (.inl ⟨t1, rfl, #[], m1, rfl, g1⟩)
    · by_cases h2 : b = 111
      · subst h2
        rw [e2] at e; cases e
        exact .inr (.inl ⟨t2, rfl, #[], m2, rfl, g2⟩)
      · exact .inl (k.keep b o (by simp [h1, h2]) e)
  · by_cases h1 : b = 161
    · subst h1; exact ⟨_, g1⟩
    · by_cases h2 : b = 111
      · subst h2; exact ⟨_, g2⟩
      · exact ⟨o, k.keep b o (by simp [h1, h2]) e⟩
theorem post_true (args ds : List WData) : PySem.Challenge.rw_qw0003_01.row.claim.post args (WData.bool true) ds = true := by kernel_rfl!
theorem caller_ok : Ok callerA (0 + 62) := ⟨rfl, by decide, by decide⟩
theorem hd_list {α : Type} {a b : α} {r r' : List α} (e : a :: r = b :: r') : a = b ∧ r = r' := List.cons.inj e
/-- the law's call, from what stands ahead of it -/
theorem hd_law {w : World} {ns : List Int} {Q : Value → Heap → Prop} (KX : ∀ a o, K a = some o → h.get? a = some o) (hsz : h.objs.size = 165 + 1) (y : yfL K = (ya w).2) (hs : IL h 165 ns) (hn : ns.length ≤ 63)
    (q : ∀ h', OldK h h' → Q (.bool true) h') : hw (model hpw w) callerA (call (.ref 164) [.ref 165]) Q h := by
  unfold yfL ya hdOk at y
  simp only [Prod.mk.injEq, List.map_cons, List.map_nil, List.cons.injEq, Bool.and_eq_true, Option.map_eq_some_iff] at y
  obtain ⟨⟨⟨d0, d2⟩, d3⟩, gn, bn, at_, cd, v1, v2, t1, t2, ⟨o4, b1, b2, b3, b4⟩, ⟨n1, n2, n3, n4, _⟩, ⟨m1, m2, _⟩, n5, n6, _⟩ := y
  have C1 := hd_at KX (by decide) v1
  have C2 := hd_at KX (by decide) v2
  have e1 := KX _ _ t1
  have e2 := KX _ _ t2
  have gd : Gd (nsFind (dictAt K 3)) (nsFind (dictAt K 0)) h :=
    { gn := map_same gn, bn := fun p hp => by have := map_same bn p hp; exact ⟨congrArg Prod.fst this, congrArg Prod.snd this⟩, g := ns_at KX d3, b := ns_at KX d0, nl := ⟨_, ns_at KX d2, n5⟩,
      at_ := fun p hp => KX _ _ (map_same at_ p hp), cd := fun p hp => code_at KX (map_same cd p hp), sz := by rw [hsz]; decide }
  have ba : BA (nsFind (dictAt K 3)) h := ⟨4, o4, n1, by decide, by decide, by decide, by decide, by decide, KX _ _ b1, b2, b3, b4⟩
  exact lawRun (n := 0) caller_ok gd hs hn
    { ba := ba, nm_ := n2, ob := ⟨n3, m1⟩, bc := m2, tab := ⟨C2, e2, trivial, rfl⟩, sys := ⟨_, ns_at KX d2, n5, n6⟩ } (lx_of C1 e1) fun h' k g1 g2 => q h' (old_of k C1 C2 e1 e2 g1 g2)
end
end

-- HZ8
section
open PySem PySem.W PySem.W.X PyProof.Rows
theorem hd_mg {h : Heap} {a : Addr} {m m' : Str → Option Value} (x : h.Ns a m) (y : h.Ns a m') (n : Str) : m n = m' n := by
  obtain ⟨o, es, p, e1, e2, _, e4⟩ := x
  obtain ⟨o', es', p', f1, f2, _, f4⟩ := y
  rw [e1] at f1; cases f1
  rw [e2] at f2; cases f2
  rw [← e4, ← f4]
noncomputable def hdD : DefRec := match defOf hdq "law" with
  | some x => x.1
  | none => ⟨"law", ⟨[], [], none, [], [], none, []⟩, [], hpw.main.scope, ⟨0, 0, 0, 0⟩⟩
theorem and_t {a b : Bool} (x : a = true) (y : b = true) : (a && b) = true := by rw [x, y]; rfl
theorem hd_open : PySem.W.Fast.tw12908688711261696721 (PySem.W.Fast.tw2368527892694137696 PySem.Challenge.rw_qw0003_01).prog = true := by kernel_rfl
theorem hd_row : PySem.W.Fast.tw2436336058641802641 (PySem.W.Fast.tw2368527892694137696 PySem.Challenge.rw_qw0003_01) = true := by
  unfold PySem.W.Fast.tw2436336058641802641
  rw [hd_open]
  kernel_rfl
theorem hd_said : PySem.Challenge.rw_qw0003_01.wellSaid = true := by
  unfold OpenLaw.wellSaid
  rw [PySem.W.Fast.te17960256430627541270, PySem.W.Fast.te2368527892694137696, PySem.W.Fast.te10501279942588096481, PySem.W.Fast.te8179353310426384613, PySem.W.Fast.te8326940854005059898, PySem.W.Fast.te797321630700447069, PySem.W.Fast.te9572597257264208301,
    PySem.W.Fast.te9558739934217749035, PySem.W.Fast.te16286561074155671207, PySem.W.Fast.te6984425678791042302, PySem.W.Fast.te17095254045102204799, PySem.W.Fast.te12879404354523853263, PySem.W.Fast.te482687673346738481, PySem.W.Fast.te17119622794617984870,
    PySem.W.Fast.te3471404346716756564, PySem.W.Fast.te10792542408131684335, PySem.W.Fast.te7723801398212525404, PySem.W.Fast.sDec_eq, PySem.W.Fast.named_eq]
  unfold PySem.W.Fast.tw17960256430627541270
  rw [hd_row]
  kernel_rfl
end
end Mine
set_option compiler.extract_closed true

open PySem PySem.W PySem.W.X PyProof.Rows Mine
set_option maxHeartbeats 0 in
theorem PySem.Challenge.cw_qw0003_01_holds : PySem.Challenge.rw_qw0003_01.Holds := by
  w_on
  refine holds_law Mine.hd_said fun said => ?_
  refine holds_openX (q := hdq) (loose := hdLoose) (Xt := hdXt) (XP := fun _ _ => True) (Yf := yf) (Ya := ya) (d := hdD) (kwd := []) (N := 1934) hd_left (fun _ _ => trivial) (fun _ _ _ _ _ => trivial) (by kernel_rfl) (by kernel_rfl) (by kernel_rfl) (fun s e => recFacts_of e) (by rfl) (by assumption) (by decide +kernel) ⟨rfl, rfl, rfl, rfl, rfl, by decide +kernel⟩ ?hw ?hc
  case hw => w_witness2
  intro w s₀ s₁ mg mb G y fa o pm cd doc dV kV ho hd hcd hD hmg hg args vals as L hpre hlay hrd hwl hlo
  clear ho hd hcd hD
  refine Ground.open G ?_
  intro T B D TE TW
  wrow_args hpre hlay hrd hwl hlo
  have g := Top.g T
  clear D TE TW B T
  rename (Heap.IsList _ _ _) => hL
  rename (IntsAre _ _) => hI
  rename (¬ _ < _) => hcond
  obtain ⟨hat, hsz⟩ := script_at L
  have KX : ∀ a o, s₀.heap.get? a = some o → s₁.heap.get? a = some o := L.keeps
  obtain ⟨yn, y⟩ := Prod.mk.inj y
  rw [yn] at hat hsz
  subst hat
  have d3 : isDictAt s₀.heap.get? 3 = true := by
    have := congrArg Prod.fst y
    exact (Bool.and_eq_true_iff.mp this).2
  have nf : nsFind (dictAt s₀.heap.get? 3) "law" = some (.ref 164) := by
    have := congrArg (fun x => x.2.2.2.2.2.2.2.2.2.2.1) y
    exact (hd_list (hd_list (hd_list (hd_list this).2).2).2).1
  have hfa : some (Value.ref fa) = some (.ref 164) := (hmg.symm.trans (hd_mg g (Mine.ns_at KX d3) "law")).trans nf
  cases hfa
  have run := Mine.hd_law (w := w) (Q := fun v h' => v = .bool true ∧ OldK s₁.heap h') KX hsz y ⟨_, hL, hI⟩ (by omega) (fun h' o => ⟨rfl, o⟩)
  refine wpAny_mono (run s₁ rfl) (fun v s' z => ?_) (fun _ _ f => f.elim)
  obtain ⟨sm, rfl, old⟩ := z
  refine ⟨.inl ⟨.bool true, .bool true, [], rfl, ?_, .bool true, ?_, fun _ => ⟨List.nodup_nil, fun _ hm => nomatch hm⟩⟩, old, sm.2.2, .of_eq (sm.1.trans hg)⟩
  · intro cls; rfl
  · exact Mine.post_true _ _
